import PyProof.Rows.All
import Wide.All
import OpenK.AllK
import Wide.FinOn
import PySem.Challenge.RW_in0134_01
open PySem PySem.W PyProof.Rows PySem.Calls
set_option Elab.async false
set_option maxRecDepth 100000
set_option maxHeartbeats 10000000
set_option linter.unusedVariables false
set_option compiler.extract_closed false
namespace Mine
-- KT
abbrev kq (s : String) : Str := Str.ofString s
def kd (P : Params) (x : String) (t : Nat) (v : Value) : DictEntry := ⟨PyData.keyHash P (Str.ofString x), .str (Str.ofString x) t, v⟩
/-- a def of the text; a def of a class of the text -/
noncomputable def at0 (i : Nat) : Stmt := PySem.Challenge.rw_in0134_01.prog.main.body.getD i default
noncomputable def at1 (i j : Nat) : Stmt := match at0 i with
  | .ClassDef _ _ _ body .. => body.getD j default
  | _ => default
/-- the function that a def makes -/
def fo (d : Stmt) (qual : Str) (clos : List (Str × Addr)) (dV kV doc pm : Value) (an : Option Addr) (code ct : Value) (bi : Addr) : Obj := match d with
  | .FunctionDef name params body _ _ _ scope .. => ⟨.type "function", none, .func ⟨name, qual, params, .stmts body, scope, 3, clos, dV, kV, doc, pm, an, code, ct, bi⟩, #[]⟩
  | _ => default
/-- what stands written when the text has been run: the objects that the law's call reaches (rows printed by GENK) -/
noncomputable def K39 (P : Params) : Frag :=
  (nat_lit 2, ⟨.none, none, (.dict #[kd P "\x69mport.loaded._sre" 183 (.bool true), kd P "class._frozen_\x69mportlib.BuiltinImporter" 185 (.ref 14), kd P "watched.\x69mport" 206 (.ref 18), kd P "class._frozen_\x69mportlib.ModuleSpec" 216 (.ref 22), kd P "sys.modules.booked-epoch" 245 (.int 4 0), kd P "\x69mport.later-laid._sre" 270 (.bool true), kd P "watched.library" 272 (.ref 27), kd P "watched.library-objects" 0 (.str (kq "\x0c\x1e") 0), kd P "watched.library-deep._sre" 273 (.str (kq "\x04\x00\x00\x0b\x04\x00\x00\x0b\x04\x00\x00\x03\x04\x00\x00\x0b\x08\x04dict\x02") 0), kd P "\x69mport.loaded._collections" 280 (.bool true), kd P "sys.modules.landed._collections" 294 (.bool true), kd P "\x69mport.later-laid._collections" 309 (.bool true), kd P "watched.library-deep._collections" 311 (.str (kq "\x04\x00\x00\x1d\x04\x00\x00\x1d\x04\x00\x00\x03\x04\x00\x00\x1d\x08\x04dict\x02") 0), kd P "type.__subclasses__.OSError.0" 581 (.int 193 0), kd P "type.__subclasses__.OSError.n" 582 (.int 1 0)] 15), #[]⟩) ::
  (nat_lit 3, ⟨(.type "dict"), none, (.dict #[kd P "__name__" 165 (.str (kq "law_in0134_01") 1430), kd P "__doc__" 166 .none, kd P "__package__" 167 .none, kd P "__loader__" 168 (.builtin "__main__.__loader__#opaque"), kd P "__spec__" 169 .none, kd P "__annotations__" 170 (.ref 6), kd P "__builtins__" 171 (.ref 4), kd P "__file__" 173 (.str (kq "/claim/cut.py") 172), kd P "__cached__" 174 .none, kd P "_sre" 275 (.ref 12), kd P "deque" 317 (.type "collections.deque"), kd P "_wall" 330 (.ref 44), kd P "_plain_name" 341 (.ref 51), kd P "ABCMeta" 367 (.ref 68), kd P "_ABCLike" 410 (.ref 101), kd P "_abc_plain_meta" 417 (.ref 110), kd P "fspath" 429 (.ref 117), kd P "_check_arg_types" 442 (.ref 740), kd P "check_arg_types_genericpath" 443 (.ref 124), kd P "commonpath" 451 (.ref 129), kd P "heappush" 461 (.ref 136), kd P "heappop" 470 (.ref 143), kd P "heapreplace" 479 (.ref 150), kd P "_siftdown" 491 (.ref 157), kd P "_siftup" 504 (.ref 164), kd P "_twin_re_1" 544 (.ref 169), kd P "_whence" 554 (.ref 176), kd P "_index" 562 (.ref 183), kd P "UnsupportedOperation" 584 (.ref 193), kd P "IOBase" 616 (.ref 213), kd P "BufferedIOBase" 634 (.ref 228), kd P "TextIOBase" 652 (.ref 240), kd P "BytesIO" 914 (.ref 470), kd P "StringIO" 1201 (.ref 717), kd P "_kind" 1212 (.ref 726), kd P "_fspath" 1221 (.ref 733), kd P "check_arg_types_path" 1232 (.ref 740), kd P "isabs" 1239 (.ref 747), kd P "join" 1250 (.ref 871), kd P "join_path" 1251 (.ref 754), kd P "dirname" 1261 (.ref 761), kd P "shlex" 1402 (.ref 852), kd P "split" 1412 (.ref 864), kd P "join_shlex" 1420 (.ref 871), kd P "_find_unsafe" 1422 (.ref 872), kd P "quote" 1429 (.ref 879), kd P "_law_places" 1437 (.ref 884), kd P "_law_names" 1443 (.ref 889), kd P "_law_shared" 1449 (.ref 894), kd P "_law_folded" 1463 (.ref 901), kd P "law" 1472 (.ref 908)] 51), #[]⟩) ::
  (nat_lit 67, ⟨(.type "dict"), none, (.dict #[kd P "__module__" 351 (.str (kq "abc") 342), kd P "__firstlineno__" 355 (.int 13 354), kd P "register" 363 (.ref 65), kd P "__static_attributes__" 364 (.ref 66), kd P "__doc__" 365 .none] 2), #[]⟩) ::
  (nat_lit 68, ⟨(.type "type"), none, (.cls ⟨(kq "ABCMeta"), [(.type "type")], [(.ref 68), (.type "type"), (.type "object")], 67, (kq "ABCMeta"), true, [], [(.ref 101)], false, none, false⟩), #[(some (.ref 52)), none, (some (.str (kq "ABCMeta") 344)), (some (.str (kq "ABCMeta") 352)), (some (.builtin "type.__new__")), (some (.bool true))]⟩) ::
  (nat_lit 100, ⟨(.type "dict"), none, (.dict #[kd P "__module__" 377 (.str (kq "collections.abc") 368), kd P "__firstlineno__" 381 (.int 18 380), kd P "__instancecheck__" 390 (.ref 84), kd P "__subclasscheck__" 398 (.ref 91), kd P "register" 406 (.ref 98), kd P "__static_attributes__" 407 (.ref 99), kd P "__doc__" 408 .none] 2), #[]⟩) ::
  (nat_lit 101, ⟨(.type "type"), none, (.cls ⟨(kq "_ABCLike"), [(.ref 68)], [(.ref 101), (.ref 68), (.type "type"), (.type "object")], 100, (kq "_ABCLike"), true, [], [], false, none, false⟩), #[(some (.ref 71)), none, (some (.str (kq "_ABCLike") 370)), (some (.str (kq "_ABCLike") 378)), (some (.builtin "type.__new__")), (some (.bool true))]⟩) ::
  (nat_lit 116, ⟨(.type "code"), none, (.fields #[(.str (kq "fspath") 420), (.str (kq "fspath") 421), (.str (kq "/claim/cut.py") 422), (.int 37 0), (.int 1 0), (.int 0 0), (.int 0 0), (.int 3 0), (.ref 111), (.bool true), (.int 318 0), (.ref 112), .none, (.ref 113), (.ref 114), (.ref 115), (.int 427 0), (.int 37 0), (.str (kq "/claim/cut.py") 428)]), #[]⟩) ::
  (nat_lit 117, fo (at0 11) (kq "fspath") [] .none .none .none (.str (kq "os") 418) none (.ref 116) .none 0) ::
  (nat_lit 128, ⟨(.type "code"), none, (.fields #[(.str (kq "commonpath") 446), (.str (kq "commonpath") 447), (.str (kq "/claim/cut.py") 448), (.int 67 0), (.int 1 0), (.int 0 0), (.int 0 0), (.int 3 0), (.ref 125), (.bool true), (.int 318 0), (.ref 126), .none, .none, .none, (.ref 127), (.int 449 0), (.int 67 0), (.str (kq "/claim/cut.py") 450)]), #[]⟩) ::
  (nat_lit 129, fo (at0 16) (kq "commonpath") [] .none .none .none (.str (kq "cpy313.posixpath") 444) none (.ref 128) .none 0) ::
  (nat_lit 135, ⟨(.type "code"), none, (.fields #[(.str (kq "heappush") 454), (.str (kq "heappush") 455), (.str (kq "/claim/cut.py") 456), (.int 97 0), (.int 2 0), (.int 0 0), (.int 0 0), (.int 3 0), (.ref 130), (.bool true), (.int 318 0), (.ref 131), .none, (.ref 132), (.ref 133), (.ref 134), (.int 459 0), (.int 97 0), (.str (kq "/claim/cut.py") 460)]), #[]⟩) ::
  (nat_lit 136, fo (at0 18) (kq "heappush") [] .none .none .none (.str (kq "cpy313.heapq") 452) none (.ref 135) .none 0) ::
  (nat_lit 142, ⟨(.type "code"), none, (.fields #[(.str (kq "heappop") 462), (.str (kq "heappop") 463), (.str (kq "/claim/cut.py") 464), (.int 100 0), (.int 1 0), (.int 0 0), (.int 0 0), (.int 3 0), (.ref 137), (.bool true), (.int 318 0), (.ref 138), .none, (.ref 139), (.ref 140), (.ref 141), (.int 468 0), (.int 100 0), (.str (kq "/claim/cut.py") 469)]), #[]⟩) ::
  (nat_lit 143, fo (at0 19) (kq "heappop") [] .none .none .none (.str (kq "cpy313.heapq") 452) none (.ref 142) .none 0) ::
  (nat_lit 149, ⟨(.type "code"), none, (.fields #[(.str (kq "heapreplace") 471), (.str (kq "heapreplace") 472), (.str (kq "/claim/cut.py") 473), (.int 108 0), (.int 2 0), (.int 0 0), (.int 0 0), (.int 3 0), (.ref 144), (.bool true), (.int 318 0), (.ref 145), .none, (.ref 146), (.ref 147), (.ref 148), (.int 477 0), (.int 108 0), (.str (kq "/claim/cut.py") 478)]), #[]⟩) ::
  (nat_lit 150, fo (at0 20) (kq "heapreplace") [] .none .none .none (.str (kq "cpy313.heapq") 452) none (.ref 149) .none 0) ::
  (nat_lit 156, ⟨(.type "code"), none, (.fields #[(.str (kq "_siftdown") 480), (.str (kq "_siftdown") 481), (.str (kq "/claim/cut.py") 482), (.int 113 0), (.int 3 0), (.int 0 0), (.int 0 0), (.int 3 0), (.ref 151), (.bool true), (.int 318 0), (.ref 152), .none, (.ref 153), (.ref 154), (.ref 155), (.int 489 0), (.int 113 0), (.str (kq "/claim/cut.py") 490)]), #[]⟩) ::
  (nat_lit 157, fo (at0 21) (kq "_siftdown") [] .none .none .none (.str (kq "cpy313.heapq") 452) none (.ref 156) .none 0) ::
  (nat_lit 163, ⟨(.type "code"), none, (.fields #[(.str (kq "_siftup") 492), (.str (kq "_siftup") 493), (.str (kq "/claim/cut.py") 494), (.int 124 0), (.int 2 0), (.int 0 0), (.int 0 0), (.int 3 0), (.ref 158), (.bool true), (.int 318 0), (.ref 159), .none, (.ref 160), (.ref 161), (.ref 162), (.int 502 0), (.int 124 0), (.str (kq "/claim/cut.py") 503)]), #[]⟩) ::
  (nat_lit 164, fo (at0 22) (kq "_siftup") [] .none .none .none (.str (kq "cpy313.heapq") 452) none (.ref 163) .none 0) ::
  (nat_lit 168, ⟨(.type "tuple"), none, (.seq #[(.int 14 0), (.int 17 0), (.int 4 0), (.int 1 0), (.int 1 0), (.int 21 0), (.int 9 0), (.int 0 0), (.int 604043296 0), (.int 1 0), (.int 0 0), (.int 0 0), (.int 0 0), (.int 0 0), (.int 0 0), (.int 8 0), (.int 4 0), (.int 0 0), (.int 13 0), (.int 14 0), (.int 21 0), (.int 9 0), (.int 0 0), (.int 604043296 0), (.int 1 0), (.int 0 0), (.int 0 0), (.int 0 0), (.int 0 0), (.int 0 0), (.int 8 0), (.int 4 0), (.int 0 0), (.int 1 0)] 0), #[]⟩) ::
  (nat_lit 169, ⟨(.type "re.Pattern"), none, (.fields #[(.str (kq "[^\\w@%+=:,./-]") 506), (.int 256 543), (.int 0 0), .none, .none, (.ref 168), (.int 0 0)]), #[]⟩) ::
  (nat_lit 182, ⟨(.type "code"), none, (.fields #[(.str (kq "_index") 555), (.str (kq "_index") 556), (.str (kq "/claim/cut.py") 557), (.int 145 0), (.int 2 0), (.int 0 0), (.int 0 0), (.int 3 0), (.ref 177), (.bool true), (.int 318 0), (.ref 178), .none, (.ref 179), (.ref 180), (.ref 181), (.int 560 0), (.int 145 0), (.str (kq "/claim/cut.py") 561)]), #[]⟩) ::
  (nat_lit 183, fo (at0 26) (kq "_index") [] .none .none .none (.str (kq "io") 545) none (.ref 182) .none 0) ::
  (nat_lit 192, ⟨(.type "dict"), none, (.dict #[kd P "__module__" 570 (.str (kq "io") 575), kd P "__firstlineno__" 574 (.int 152 573), kd P "__static_attributes__" 577 (.ref 191), kd P "__weakref__" 579 (.ref 194), kd P "__doc__" 580 .none] 3), #[]⟩) ::
  (nat_lit 193, ⟨(.type "type"), none, (.cls ⟨(kq "UnsupportedOperation"), [(.type "OSError"), (.type "ValueError")], [(.ref 193), (.type "OSError"), (.type "ValueError"), (.type "Exception"), (.type "BaseException"), (.type "object")], 192, (kq "UnsupportedOperation"), true, [], [], false, none, false⟩), #[(some (.ref 184)), none, (some (.str (kq "UnsupportedOperation") 563)), (some (.str (kq "UnsupportedOperation") 571)), (some (.builtin "OSError.__new__")), (some (.bool true))]⟩) ::
  (nat_lit 194, ⟨(.type "getset_descriptor"), none, (.fields #[(.str (kq "__weakref__") 578), (.ref 193), (.builtin "ExceptionGroup.__weakref__"), .none]), #[]⟩) ::
  (nat_lit 209, ⟨(.type "code"), none, (.fields #[(.str (kq "__new__") 599), (.str (kq "IOBase.__new__") 600), (.str (kq "/claim/cut.py") 601), (.int 157 0), (.int 1 0), (.int 1 0), (.int 0 0), (.int 15 0), (.ref 204), (.bool true), (.int 318 0), (.ref 205), .none, (.ref 206), (.ref 207), (.ref 208), (.int 605 0), (.int 157 0), (.str (kq "/claim/cut.py") 606)]), #[]⟩) ::
  (nat_lit 210, fo (at1 28 1) (kq "IOBase.__new__") [] .none .none .none (.str (kq "io") 545) none (.ref 209) .none 0) ::
  (nat_lit 212, ⟨(.type "dict"), none, (.dict #[kd P "__module__" 592 (.str (kq "io") 597), kd P "__firstlineno__" 596 (.int 154 595), kd P "__new__" 607 (.ref 214), kd P "__static_attributes__" 608 (.ref 211), kd P "__dict__" 611 (.ref 215), kd P "__weakref__" 613 (.ref 216), kd P "__doc__" 614 .none] 4), #[]⟩) ::
  (nat_lit 213, ⟨(.type "type"), none, (.cls ⟨(kq "IOBase"), [(.type "object")], [(.ref 213), (.type "object")], 212, (kq "IOBase"), true, [], [(.ref 228), (.ref 240)], false, none, false⟩), #[none, none, (some (.str (kq "IOBase") 585)), (some (.str (kq "IOBase") 593)), (some .none), (some (.bool true))]⟩) ::
  (nat_lit 214, ⟨(.type "staticmethod"), none, (.fields #[(.ref 210)]), #[]⟩) ::
  (nat_lit 215, ⟨(.type "getset_descriptor"), none, (.fields #[(.str (kq "__dict__") 610), (.ref 213), (.builtin "function.__dict__"), (.builtin "function.__dict__#set")]), #[]⟩) ::
  (nat_lit 216, ⟨(.type "getset_descriptor"), none, (.fields #[(.str (kq "__weakref__") 612), (.ref 213), (.builtin "ExceptionGroup.__weakref__"), .none]), #[]⟩) ::
  (nat_lit 227, ⟨(.type "dict"), none, (.dict #[kd P "__module__" 624 (.str (kq "io") 629), kd P "__firstlineno__" 628 (.int 161 627), kd P "__static_attributes__" 631 (.ref 226), kd P "__doc__" 632 .none] 2), #[]⟩) ::
  (nat_lit 228, ⟨(.type "type"), none, (.cls ⟨(kq "BufferedIOBase"), [(.ref 213)], [(.ref 228), (.ref 213), (.type "object")], 227, (kq "BufferedIOBase"), true, [], [(.ref 470)], false, none, false⟩), #[(some (.ref 219)), none, (some (.str (kq "BufferedIOBase") 617)), (some (.str (kq "BufferedIOBase") 625)), (some .none), (some (.bool true))]⟩) ::
  (nat_lit 239, ⟨(.type "dict"), none, (.dict #[kd P "__module__" 642 (.str (kq "io") 647), kd P "__firstlineno__" 646 (.int 163 645), kd P "__static_attributes__" 649 (.ref 238), kd P "__doc__" 650 .none] 2), #[]⟩) ::
  (nat_lit 240, ⟨(.type "type"), none, (.cls ⟨(kq "TextIOBase"), [(.ref 213)], [(.ref 240), (.ref 213), (.type "object")], 239, (kq "TextIOBase"), true, [], [(.ref 717)], false, none, false⟩), #[(some (.ref 231)), none, (some (.str (kq "TextIOBase") 635)), (some (.str (kq "TextIOBase") 643)), (some .none), (some (.bool true))]⟩) ::
  (nat_lit 279, ⟨(.type "property"), none, (.fields #[(.ref 278), .none, .none, .none, (.str (kq "closed") 700), (.bool false)]), #[]⟩) ::
  (nat_lit 469, ⟨(.type "dict"), none, (.dict #[kd P "__module__" 660 (.str (kq "_io") 665), kd P "__firstlineno__" 664 (.int 165 663), kd P "__init__" 674 (.ref 257), kd P "_BytesIO__check" 681 (.ref 264), kd P "_BytesIO__line" 692 (.ref 271), kd P "closed" 700 (.ref 279), kd P "close" 707 (.ref 286), kd P "__enter__" 714 (.ref 293), kd P "__exit__" 722 (.ref 300), kd P "readable" 729 (.ref 307), kd P "writable" 736 (.ref 314), kd P "seekable" 743 (.ref 321), kd P "isatty" 750 (.ref 328), kd P "flush" 757 (.ref 335), kd P "fileno" 764 (.ref 342), kd P "detach" 771 (.ref 349), kd P "getvalue" 778 (.ref 356), kd P "getbuffer" 785 (.ref 363), kd P "tell" 792 (.ref 370), kd P "seek" 802 (.ref 378), kd P "truncate" 810 (.ref 386), kd P "read" 822 (.ref 394), kd P "read1" 832 (.ref 402), kd P "readinto" 842 (.ref 409), kd P "readinto1" 850 (.ref 416), kd P "readline" 860 (.ref 424), kd P "readlines" 868 (.ref 432), kd P "__iter__" 875 (.ref 439), kd P "__next__" 883 (.ref 446), kd P "write" 893 (.ref 453), kd P "writelines" 901 (.ref 460), kd P "__repr__" 908 (.ref 467), kd P "__static_attributes__" 911 (.ref 468), kd P "__doc__" 912 .none] 2), #[]⟩) ::
  (nat_lit 470, ⟨(.type "type"), none, (.cls ⟨(kq "BytesIO"), [(.ref 228)], [(.ref 470), (.ref 228), (.ref 213), (.type "object")], 469, (kq "BytesIO"), true, [], [], false, none, false⟩), #[(some (.ref 243)), none, (some (.str (kq "BytesIO") 653)), (some (.str (kq "BytesIO") 661)), (some .none), (some (.bool true))]⟩) ::
  (nat_lit 480, ⟨(.type "tuple"), none, (.seq #[(.str (kq "") 929), (.str (kq "\n") 930)] 0), #[]⟩) ::
  (nat_lit 486, ⟨(.type "code"), none, (.fields #[(.str (kq "__init__") 931), (.str (kq "StringIO.__init__") 932), (.str (kq "/claim/cut.py") 933), (.int 338 0), (.int 3 0), (.int 0 0), (.int 0 0), (.int 3 0), (.ref 481), (.bool true), (.int 318 0), (.ref 482), .none, (.ref 483), (.ref 484), (.ref 485), (.int 937 0), (.int 338 0), (.str (kq "/claim/cut.py") 938)]), #[]⟩) ::
  (nat_lit 487, fo (at1 32 1) (kq "StringIO.__init__") [] (.ref 480) .none .none (.str (kq "io") 545) none (.ref 486) .none 0) ::
  (nat_lit 493, ⟨(.type "code"), none, (.fields #[(.str (kq "__translated") 940), (.str (kq "StringIO.__translated") 941), (.str (kq "/claim/cut.py") 942), (.int 351 0), (.int 2 0), (.int 0 0), (.int 0 0), (.int 3 0), (.ref 488), (.bool true), (.int 318 0), (.ref 489), .none, (.ref 490), (.ref 491), (.ref 492), (.int 946 0), (.int 351 0), (.str (kq "/claim/cut.py") 947)]), #[]⟩) ::
  (nat_lit 494, fo (at1 32 2) (kq "StringIO.__translated") [] .none .none .none (.str (kq "io") 545) none (.ref 493) .none 0) ::
  (nat_lit 500, ⟨(.type "code"), none, (.fields #[(.str (kq "__check") 949), (.str (kq "StringIO.__check") 950), (.str (kq "/claim/cut.py") 951), (.int 359 0), (.int 1 0), (.int 0 0), (.int 0 0), (.int 3 0), (.ref 495), (.bool true), (.int 318 0), (.ref 496), .none, (.ref 497), (.ref 498), (.ref 499), (.int 953 0), (.int 359 0), (.str (kq "/claim/cut.py") 954)]), #[]⟩) ::
  (nat_lit 501, fo (at1 32 3) (kq "StringIO.__check") [] .none .none .none (.str (kq "io") 545) none (.ref 500) .none 0) ::
  (nat_lit 523, ⟨(.type "property"), none, (.fields #[(.ref 522), .none, .none, .none, (.str (kq "closed") 985), (.bool false)]), #[]⟩) ::
  (nat_lit 531, ⟨(.type "property"), none, (.fields #[(.ref 530), .none, .none, .none, (.str (kq "line_buffering") 993), (.bool false)]), #[]⟩) ::
  (nat_lit 539, ⟨(.type "property"), none, (.fields #[(.ref 538), .none, .none, .none, (.str (kq "newlines") 1001), (.bool false)]), #[]⟩) ::
  (nat_lit 547, ⟨(.type "property"), none, (.fields #[(.ref 546), .none, .none, .none, (.str (kq "encoding") 1009), (.bool false)]), #[]⟩) ::
  (nat_lit 555, ⟨(.type "property"), none, (.fields #[(.ref 554), .none, .none, .none, (.str (kq "errors") 1017), (.bool false)]), #[]⟩) ::
  (nat_lit 656, ⟨(.type "tuple"), none, (.seq #[(.int (-1) 1122)] 0), #[]⟩) ::
  (nat_lit 662, ⟨(.type "code"), none, (.fields #[(.str (kq "read") 1123), (.str (kq "StringIO.read") 1124), (.str (kq "/claim/cut.py") 1125), (.int 481 0), (.int 2 0), (.int 2 0), (.int 0 0), (.int 3 0), (.ref 657), (.bool true), (.int 318 0), (.ref 658), .none, (.ref 659), (.ref 660), (.ref 661), (.int 1130 0), (.int 481 0), (.str (kq "/claim/cut.py") 1131)]), #[]⟩) ::
  (nat_lit 663, fo (at1 32 25) (kq "StringIO.read") [] (.ref 656) .none .none (.str (kq "io") 545) none (.ref 662) .none 0) ::
  (nat_lit 716, ⟨(.type "dict"), none, (.dict #[kd P "__module__" 922 (.str (kq "_io") 927), kd P "__firstlineno__" 926 (.int 335 925), kd P "__init__" 939 (.ref 487), kd P "_StringIO__translated" 948 (.ref 494), kd P "_StringIO__check" 955 (.ref 501), kd P "_StringIO__check_dot" 962 (.ref 508), kd P "_StringIO__line" 977 (.ref 515), kd P "closed" 985 (.ref 523), kd P "line_buffering" 993 (.ref 531), kd P "newlines" 1001 (.ref 539), kd P "encoding" 1009 (.ref 547), kd P "errors" 1017 (.ref 555), kd P "close" 1024 (.ref 562), kd P "__enter__" 1031 (.ref 569), kd P "__exit__" 1039 (.ref 576), kd P "readable" 1046 (.ref 583), kd P "writable" 1053 (.ref 590), kd P "seekable" 1060 (.ref 597), kd P "isatty" 1067 (.ref 604), kd P "flush" 1074 (.ref 611), kd P "fileno" 1081 (.ref 618), kd P "detach" 1088 (.ref 625), kd P "getvalue" 1095 (.ref 632), kd P "tell" 1102 (.ref 639), kd P "seek" 1112 (.ref 647), kd P "truncate" 1120 (.ref 655), kd P "read" 1132 (.ref 663), kd P "readline" 1142 (.ref 671), kd P "readlines" 1152 (.ref 679), kd P "__iter__" 1159 (.ref 686), kd P "__next__" 1167 (.ref 693), kd P "write" 1179 (.ref 700), kd P "writelines" 1187 (.ref 707), kd P "__repr__" 1194 (.ref 714), kd P "__static_attributes__" 1198 (.ref 715), kd P "__doc__" 1199 .none] 2), #[]⟩) ::
  (nat_lit 717, ⟨(.type "type"), none, (.cls ⟨(kq "StringIO"), [(.ref 240)], [(.ref 717), (.ref 240), (.ref 213), (.type "object")], 716, (kq "StringIO"), true, [], [], false, none, false⟩), #[(some (.ref 473)), none, (some (.str (kq "StringIO") 915)), (some (.str (kq "StringIO") 923)), (some .none), (some (.bool true))]⟩) ::
  (nat_lit 769, ⟨(.type "tuple"), none, (.seq #[.none, .none, (.bool false), (.bool false)] 0), #[]⟩) ::
  (nat_lit 775, ⟨(.type "code"), none, (.fields #[(.str (kq "__init__") 1276), (.str (kq "shlex.__init__") 1277), (.str (kq "/claim/cut.py") 1278), (.int 608 0), (.int 5 0), (.int 0 0), (.int 0 0), (.int 3 0), (.ref 770), (.bool true), (.int 318 0), (.ref 771), .none, (.ref 772), (.ref 773), (.ref 774), (.int 1285 0), (.int 608 0), (.str (kq "/claim/cut.py") 1286)]), #[]⟩) ::
  (nat_lit 776, fo (at1 43 0) (kq "shlex.__init__") [] (.ref 769) .none .none (.str (kq "cpy313.shlex") 1262) none (.ref 775) .none 0) ::
  (nat_lit 782, ⟨(.type "code"), none, (.fields #[(.str (kq "punctuation_chars") 1288), (.str (kq "shlex.punctuation_chars") 1289), (.str (kq "/claim/cut.py") 1290), (.int 649 0), (.int 1 0), (.int 0 0), (.int 0 0), (.int 3 0), (.ref 777), (.bool true), (.int 318 0), (.ref 778), .none, (.ref 779), (.ref 780), (.ref 781), (.int 1292 0), (.int 649 0), (.str (kq "/claim/cut.py") 1293)]), #[]⟩) ::
  (nat_lit 783, fo (at1 43 1) (kq "shlex.punctuation_chars") [] .none .none .none (.str (kq "cpy313.shlex") 1262) none (.ref 782) .none 0) ::
  (nat_lit 784, ⟨(.type "property"), none, (.fields #[(.ref 783), .none, .none, .none, (.str (kq "punctuation_chars") 1295), (.bool false)]), #[]⟩) ::
  (nat_lit 812, ⟨(.type "code"), none, (.fields #[(.str (kq "get_token") 1320), (.str (kq "shlex.get_token") 1321), (.str (kq "/claim/cut.py") 1322), (.int 676 0), (.int 1 0), (.int 0 0), (.int 0 0), (.int 3 0), (.ref 807), (.bool true), (.int 318 0), (.ref 808), .none, (.ref 809), (.ref 810), (.ref 811), (.int 1329 0), (.int 676 0), (.str (kq "/claim/cut.py") 1330)]), #[]⟩) ::
  (nat_lit 813, fo (at1 43 5) (kq "shlex.get_token") [] .none .none .none (.str (kq "cpy313.shlex") 1262) none (.ref 812) .none 0) ::
  (nat_lit 819, ⟨(.type "code"), none, (.fields #[(.str (kq "read_token") 1332), (.str (kq "shlex.read_token") 1333), (.str (kq "/claim/cut.py") 1334), (.int 703 0), (.int 1 0), (.int 0 0), (.int 0 0), (.int 3 0), (.ref 814), (.bool true), (.int 318 0), (.ref 815), .none, (.ref 816), (.ref 817), (.ref 818), (.int 1340 0), (.int 703 0), (.str (kq "/claim/cut.py") 1341)]), #[]⟩) ::
  (nat_lit 820, fo (at1 43 6) (kq "shlex.read_token") [] .none .none .none (.str (kq "cpy313.shlex") 1262) none (.ref 819) .none 0) ::
  (nat_lit 841, ⟨(.type "code"), none, (.fields #[(.str (kq "__iter__") 1360), (.str (kq "shlex.__iter__") 1361), (.str (kq "/claim/cut.py") 1362), (.int 850 0), (.int 1 0), (.int 0 0), (.int 0 0), (.int 3 0), (.ref 836), (.bool true), (.int 318 0), (.ref 837), .none, (.ref 838), (.ref 839), (.ref 840), (.int 1364 0), (.int 850 0), (.str (kq "/claim/cut.py") 1365)]), #[]⟩) ::
  (nat_lit 842, fo (at1 43 9) (kq "shlex.__iter__") [] .none .none .none (.str (kq "cpy313.shlex") 1262) none (.ref 841) .none 0) ::
  (nat_lit 848, ⟨(.type "code"), none, (.fields #[(.str (kq "__next__") 1367), (.str (kq "shlex.__next__") 1368), (.str (kq "/claim/cut.py") 1369), (.int 853 0), (.int 1 0), (.int 0 0), (.int 0 0), (.int 3 0), (.ref 843), (.bool true), (.int 318 0), (.ref 844), .none, (.ref 845), (.ref 846), (.ref 847), (.int 1372 0), (.int 853 0), (.str (kq "/claim/cut.py") 1373)]), #[]⟩) ::
  (nat_lit 849, fo (at1 43 10) (kq "shlex.__next__") [] .none .none .none (.str (kq "cpy313.shlex") 1262) none (.ref 848) .none 0) ::
  (nat_lit 851, ⟨(.type "dict"), none, (.dict #[kd P "__module__" 1271 (.str (kq "cpy313.shlex") 1262), kd P "__firstlineno__" 1275 (.int 606 1274), kd P "__init__" 1287 (.ref 776), kd P "punctuation_chars" 1295 (.ref 784), kd P "push_token" 1303 (.ref 791), kd P "push_source" 1312 (.ref 799), kd P "pop_source" 1319 (.ref 806), kd P "get_token" 1331 (.ref 813), kd P "read_token" 1342 (.ref 820), kd P "sourcehook" 1350 (.ref 827), kd P "error_leader" 1359 (.ref 835), kd P "__iter__" 1366 (.ref 842), kd P "__next__" 1374 (.ref 849), kd P "__static_attributes__" 1395 (.ref 850), kd P "__dict__" 1397 (.ref 853), kd P "__weakref__" 1399 (.ref 854), kd P "__doc__" 1400 .none] 4), #[]⟩) ::
  (nat_lit 852, ⟨(.type "type"), none, (.cls ⟨(kq "shlex"), [(.type "object")], [(.ref 852), (.type "object")], 851, (kq "shlex"), true, [], [], false, none, false⟩), #[none, none, (some (.str (kq "shlex") 1264)), (some (.str (kq "shlex") 1272)), (some (.builtin "object.__new__")), (some (.bool true))]⟩) ::
  (nat_lit 853, ⟨(.type "getset_descriptor"), none, (.fields #[(.str (kq "__dict__") 1396), (.ref 852), (.builtin "function.__dict__"), (.builtin "function.__dict__#set")]), #[]⟩) ::
  (nat_lit 854, ⟨(.type "getset_descriptor"), none, (.fields #[(.str (kq "__weakref__") 1398), (.ref 852), (.builtin "ExceptionGroup.__weakref__"), .none]), #[]⟩) ::
  (nat_lit 857, ⟨(.type "tuple"), none, (.seq #[(.bool false), (.bool true)] 0), #[]⟩) ::
  (nat_lit 863, ⟨(.type "code"), none, (.fields #[(.str (kq "split") 1403), (.str (kq "split") 1404), (.str (kq "/claim/cut.py") 1405), (.int 858 0), (.int 3 0), (.int 0 0), (.int 0 0), (.int 3 0), (.ref 858), (.bool true), (.int 318 0), (.ref 859), .none, (.ref 860), (.ref 861), (.ref 862), (.int 1410 0), (.int 858 0), (.str (kq "/claim/cut.py") 1411)]), #[]⟩) ::
  (nat_lit 864, fo (at0 44) (kq "split") [] (.ref 857) .none .none (.str (kq "cpy313.shlex") 1262) none (.ref 863) .none 0) ::
  (nat_lit 870, ⟨(.type "code"), none, (.fields #[(.str (kq "join") 1413), (.str (kq "join") 1414), (.str (kq "/claim/cut.py") 1415), (.int 866 0), (.int 1 0), (.int 0 0), (.int 0 0), (.int 3 0), (.ref 865), (.bool true), (.int 318 0), (.ref 866), .none, (.ref 867), (.ref 868), (.ref 869), (.int 1417 0), (.int 866 0), (.str (kq "/claim/cut.py") 1418)]), #[]⟩) ::
  (nat_lit 871, fo (at0 45) (kq "join") [] .none .none .none (.str (kq "cpy313.shlex") 1262) none (.ref 870) .none 0) ::
  (nat_lit 872, ⟨(.type "builtin_function_or_method"), none, (.fields #[(.builtin "re.Pattern.search"), (.ref 169)]), #[]⟩) ::
  (nat_lit 878, ⟨(.type "code"), none, (.fields #[(.str (kq "quote") 1423), (.str (kq "quote") 1424), (.str (kq "/claim/cut.py") 1425), (.int 870 0), (.int 1 0), (.int 0 0), (.int 0 0), (.int 3 0), (.ref 873), (.bool true), (.int 318 0), (.ref 874), .none, (.ref 875), (.ref 876), (.ref 877), (.int 1427 0), (.int 870 0), (.str (kq "/claim/cut.py") 1428)]), #[]⟩) ::
  (nat_lit 879, fo (at0 48) (kq "quote") [] .none .none .none (.str (kq "cpy313.shlex") 1262) none (.ref 878) .none 0) ::
  (nat_lit 883, ⟨(.type "code"), none, (.fields #[(.str (kq "_law_places") 1432), (.str (kq "_law_places") 1433), (.str (kq "/claim/cut.py") 1434), (.int 877 0), (.int 1 0), (.int 0 0), (.int 0 0), (.int 3 0), (.ref 880), (.bool true), (.int 318 0), (.ref 881), .none, .none, .none, (.ref 882), (.int 1435 0), (.int 877 0), (.str (kq "/claim/cut.py") 1436)]), #[]⟩) ::
  (nat_lit 884, fo (at0 50) (kq "_law_places") [] .none .none .none (.str (kq "law_in0134_01") 1430) none (.ref 883) .none 0) ::
  (nat_lit 888, ⟨(.type "code"), none, (.fields #[(.str (kq "_law_names") 1438), (.str (kq "_law_names") 1439), (.str (kq "/claim/cut.py") 1440), (.int 880 0), (.int 1 0), (.int 0 0), (.int 0 0), (.int 3 0), (.ref 885), (.bool true), (.int 318 0), (.ref 886), .none, .none, .none, (.ref 887), (.int 1441 0), (.int 880 0), (.str (kq "/claim/cut.py") 1442)]), #[]⟩) ::
  (nat_lit 889, fo (at0 51) (kq "_law_names") [] .none .none .none (.str (kq "law_in0134_01") 1430) none (.ref 888) .none 0) ::
  (nat_lit 893, ⟨(.type "code"), none, (.fields #[(.str (kq "_law_shared") 1444), (.str (kq "_law_shared") 1445), (.str (kq "/claim/cut.py") 1446), (.int 882 0), (.int 1 0), (.int 0 0), (.int 0 0), (.int 3 0), (.ref 890), (.bool true), (.int 318 0), (.ref 891), .none, .none, .none, (.ref 892), (.int 1447 0), (.int 882 0), (.str (kq "/claim/cut.py") 1448)]), #[]⟩) ::
  (nat_lit 894, fo (at0 52) (kq "_law_shared") [] .none .none .none (.str (kq "law_in0134_01") 1430) none (.ref 893) .none 0) ::
  (nat_lit 900, ⟨(.type "code"), none, (.fields #[(.str (kq "_law_folded") 1450), (.str (kq "_law_folded") 1451), (.str (kq "/claim/cut.py") 1452), (.int 888 0), (.int 1 0), (.int 0 0), (.int 0 0), (.int 3 0), (.ref 895), (.bool true), (.int 318 0), (.ref 896), .none, (.ref 897), (.ref 898), (.ref 899), (.int 1461 0), (.int 888 0), (.str (kq "/claim/cut.py") 1462)]), #[]⟩) ::
  (nat_lit 901, fo (at0 53) (kq "_law_folded") [] .none .none .none (.str (kq "law_in0134_01") 1430) none (.ref 900) .none 0) ::
  (nat_lit 907, ⟨(.type "code"), none, (.fields #[(.str (kq "law") 1464), (.str (kq "law") 1465), (.str (kq "/claim/cut.py") 1466), (.int 901 0), (.int 1 0), (.int 0 0), (.int 0 0), (.int 3 0), (.ref 902), (.bool true), (.int 318 0), (.ref 903), .none, (.ref 904), (.ref 905), (.ref 906), (.int 1470 0), (.int 901 0), (.str (kq "/claim/cut.py") 1471)]), #[]⟩) ::
  (nat_lit 908, fo (at0 54) (kq "law") [] .none .none .none (.str (kq "law_in0134_01") 1430) none (.ref 907) .none 0) :: []
-- VA
theorem rm {a b n m : Nat} (h : a + 1 = b) (hr : m ≤ b) (hn : n + 1 ≤ m) : n ≤ a := Nat.le_of_succ_le_succ (Nat.le_trans hn (Nat.le_trans hr (Nat.le_of_eq h.symm)))
theorem rm1 {a n m : Nat} (hr : m ≤ a) (hn : n + 1 ≤ m) : n ≤ a - 1 := Nat.le_sub_of_add_le (Nat.le_trans hn hr)
theorem rm2 {a b n m : Nat} (h : a + 1 = b) (hr : m ≤ b) (hn : n + 2 ≤ m) : n ≤ a - 1 := Nat.le_sub_of_add_le (rm h hr hn)
theorem rm3 {a n m : Nat} (hr : m ≤ a) (hn : n + 2 ≤ m) : n ≤ a - 1 - 1 := Nat.le_sub_of_add_le (Nat.le_sub_of_add_le (Nat.le_trans hn hr))
theorem rm4 {a n m : Nat} (hr : m ≤ a) (hn : n + 3 ≤ m) : n ≤ a - 1 - 1 - 1 := Nat.le_sub_of_add_le (Nat.le_sub_of_add_le (Nat.le_sub_of_add_le (Nat.le_trans hn hr)))
theorem nx1 {n i L : Nat} (h : n + i = L) (hi : i < L) : n - 1 + (i + 1) = L := by
  cases n with
  | zero => rw [Nat.zero_add] at h; exact absurd hi (Nat.not_lt.mpr (Nat.le_of_eq h.symm))
  | succ n => exact (Nat.succ_add_eq_add_succ n i).symm.trans h
theorem nx2 {n i L : Nat} (h : n + i = L + 1) (hi : i ≤ L) : n - 1 + (i + 1) = L + 1 := nx1 h (Nat.lt_succ_of_le hi)
theorem nx4 {n i L : Nat} (h : n + i = L) (hi : i < L) : n - 1 < n := by
  cases n with
  | zero => rw [Nat.zero_add] at h; exact absurd hi (Nat.not_lt.mpr (Nat.le_of_eq h.symm))
  | succ n => exact Nat.lt_succ_self n
theorem nx3 {n i L : Nat} (h : n + i = L + 1) (hi : i ≤ L) : n - 1 < n := nx4 h (Nat.lt_succ_of_le hi)
theorem nx5 {n i k : Nat} (h : n - i = k + 1) : n - (i + 1) = k := (Nat.sub_succ n i).trans (congrArg Nat.pred h)
theorem nx6 {n i k : Nat} (h : n - i = k + 1) : i < n := Nat.lt_of_sub_eq_succ h
theorem nx7 {n i : Nat} (h : n - i = 0) (hi : i ≤ n) : i = n := Nat.le_antisymm hi (Nat.le_of_sub_eq_zero h)
theorem nx8 {n i L : Nat} (h : n + i = L) (hi : ¬i < L) : i = L := Nat.le_antisymm (h ▸ Nat.le_add_left i n) (Nat.le_of_not_lt hi)
theorem nx9 {n i L : Nat} (h : n + i = L) : i ≤ L := h ▸ Nat.le_add_left i n
theorem nx0 {n i : Nat} (h : n - i = 0) : n ≤ i := Nat.le_of_sub_eq_zero h
theorem of0 {a b m : Nat} (h : a + m ≤ b) (hm : 1 ≤ m) : a < b := Nat.lt_of_lt_of_le (Nat.lt_add_of_pos_right hm) h
theorem of1 {a b m n : Nat} (h : a + m ≤ b) (hm : n ≤ m) : a + n ≤ b := Nat.le_trans (Nat.add_le_add_left hm a) h
theorem of2 {a b m n : Nat} (h : a + m ≤ b) (hm : n + 1 ≤ m) : a + n < b := Nat.le_trans (Nat.add_le_add_left hm a) h
theorem of3 {a b n : Nat} (h : a < b) (hm : n ≤ 1) : a + n ≤ b := Nat.le_trans (Nat.add_le_add_left hm a) h
theorem of4 {a b m n : Nat} (h : a + m < b) (hm : n ≤ m + 1) : a + n ≤ b := Nat.le_trans (Nat.add_le_add_left hm a) h
theorem ne1 {a n : Nat} (h : 1 ≤ n) : a ≠ a + n := Nat.ne_of_lt (Nat.lt_add_of_pos_right h)
theorem ne2 {a n : Nat} (h : 1 ≤ n) : a + n ≠ a := Nat.ne_of_gt (Nat.lt_add_of_pos_right h)
theorem ne3 {a b n : Nat} (h : a < b) : a ≠ b + n := Nat.ne_of_lt (Nat.lt_of_lt_of_le h (Nat.le_add_right b n))
theorem ne4 {a b n : Nat} (h : a < b) : b + n ≠ a := Ne.symm (ne3 h)
theorem le1 {a b m n : Nat} (e : b = a) (h : a ≤ m) (hm : m ≤ n) : b ≤ n := Nat.le_trans (Nat.le_of_eq e) (Nat.le_trans h hm)
theorem le2 {a b m n : Nat} (e : a = b) (h : a ≤ m) (hm : m ≤ n) : b ≤ n := Nat.le_trans (Nat.le_of_eq e.symm) (Nat.le_trans h hm)
theorem le3 {a b i : Nat} (h : i < a) (e : b = a) : i < b := Nat.lt_of_lt_of_eq h e.symm
theorem le4 {a b i : Nat} (h : i < a) (hb : a ≤ b) : i ≤ b := Nat.le_of_lt (Nat.lt_of_lt_of_le h hb)
theorem le5 {a n : Nat} : a ≤ a + n := Nat.le_add_right a n
theorem in1 {a b : Nat} (h : a ≤ b) : (a : Int) ≤ (b : Int) := Int.ofNat_le.mpr h
theorem in2 {a b : Nat} (h : a < b) : (a : Int) < (b : Int) := Int.ofNat_lt.mpr h
theorem in3 {a m : Nat} (h : a ≤ m) (hm : m + 1 ≤ 2 ^ 63) : (a : Int) < 2 ^ 63 := by lia
theorem in4 {a b m : Nat} (e : b = a) (h : a ≤ m) (hm : m + 1 ≤ 2 ^ 63) : (b : Int) < 2 ^ 63 := in3 (Nat.le_trans (Nat.le_of_eq e) h) hm
theorem in5 {a b m : Nat} (hb : b < a) (h : a ≤ m) (hm : m + 1 ≤ 2 ^ 63) : (b : Int) < 2 ^ 63 := in3 (Nat.le_trans (Nat.le_of_lt hb) h) hm
theorem dp1 {a r n : Nat} (h : a + (r + 1) < n) : a + 1 + r < n := Nat.lt_of_le_of_lt (Nat.le_of_eq (Nat.add_right_comm a 1 r)) h
theorem dp2 {a r n : Nat} (h : a + r < n) : a < n := Nat.lt_of_le_of_lt (Nat.le_add_right a r) h
/-- a step told by a row: flags, the rule's name, a letter for each thing that it asks for. Flags: `!` nothing is left to show; `~` the last asked is shown first; `=` unfold -/
def rowOf (side : Char → Lean.MacroM (Lean.TSyntax `tactic)) (row : List Char) : Lean.MacroM (Lean.TSyntax `tactic) := do
  let (fl, r) := row.span fun c => c == '!' || c == '~' || c == '='
  let (nm, ls) := r.span (· != ' ')
  let lem := Lean.mkIdent (String.ofList nm).toName
  let ids ← (List.range (ls.length - 1)).mapM fun i => return Lean.mkIdent (← Lean.Macro.addMacroScope (.mkSimple s!"x{i}"))
  let hole ← `(term| ?_)
  let args ← ids.mapM fun i => `(term| ?$i:ident)
  let args := if fl.contains '!' then args else args ++ [hole]
  let main ← if ids.isEmpty then `(tactic| refine $(Lean.Syntax.mkApp lem args.toArray)) else `(tactic| refine' $(Lean.Syntax.mkApp lem args.toArray))
  let main ← if fl.contains '=' then pure main else `(tactic| with_reducible $main:tactic)
  let cs ← (ids.zip (ls.drop 1)).mapM fun (i, l) => do let t ← side l; `(tactic| case $i:ident => $t:tactic)
  (if fl.contains '~' then cs.reverse else cs).foldlM (fun a b => `(tactic| ($a:tactic; $b:tactic))) main
/-- the first of the rows that fits -/
def rowsOf (side : Char → Lean.MacroM (Lean.TSyntax `tactic)) (rows : String) : Lean.MacroM (Lean.TSyntax `tactic) := do
  (← (rows.splitOn ",").mapM fun r => rowOf side r.toList).foldrM (fun a b => `(tactic| first | $a:tactic | $b:tactic)) (← `(tactic| fail))
def side0 : Char → Lean.MacroM (Lean.TSyntax `tactic)
  | 'A' => `(tactic| with_reducible assumption)
  | 'a' => `(tactic| assumption)
  | 'b' => `(tactic| exact Nat.le_of_ble_eq_true rfl)
  | 'D' => `(tactic| decide)
  | 'R' => `(tactic| exact rfl)
  | 'r' => `(tactic| rfl)
  | 'U' => `(tactic| with_unfolding_all rfl)
  | _ => `(tactic| fail)
/-- numbers -/
local macro_rules | `(tactic| lsm_bools) => do
  let a ← rowsOf side0 "!=Nat.ne_of_lt A,!=Nat.ne_of_gt A,!=Nat.le_of_lt A,!~=Nat.le_trans bA,!=Nat.le_trans Ab,!=rm AAb,!=rm1 Ab,!=rm2 AAb,!=Nat.lt_of_lt_of_le AA,!=Nat.lt_of_le_of_lt AA,!rm3 Ab,!rm4 Ab,!nx1 AA,!nx2 AA,!nx3 AA,!nx4 AA,!nx5 A,!nx6 A,!nx8 AA,!nx7 AA,!nx9 A,!nx0 A,!le5,!of0 Ab,!of1 Ab,!of2 Ab,!of3 Ab,!of4 Ab,!ne1 b,!ne2 b,!ne3 A,!ne4 A,!Nat.lt_of_lt_of_eq AA,!le3 AA,!le1 AAb,!le2 AAb,!le4 AA,!Nat.sub_add_cancel A,!Int.natCast_nonneg,!in1 A,!in2 A,!in3 Ab,!in4 AAb,!in5 AAb,!dp1 A,!dp2 A"
  `(tactic| first | with_reducible assumption | $a:tactic | lia)
/-- values without tokens; an object is told by its number in the ledger -/
inductive AV where
  | none | bool (b : Bool) | int (i : Int) | str (s : Str) | obj (k : Nat) | fix (v : Value)
/-- a kind of object of one's own, told by a predicate that stays when more places come -/
structure MP where
  P : List Addr → Obj → Prop
  mono : ∀ ρ ρ' o, P ρ o → P (ρ ++ ρ') o
inductive AO where
  | gen (G : MP)
  | list (l : List AV) | tup (l : List AV) | inst (C : Addr) (d : Nat) | dict (l : List (Str × AV)) | cell (v : Option AV) | raw (o : Obj)

noncomputable def AV.rel (ρ : List Addr) : AV → Value → Prop
  | .none, v => v = .none
  | .bool b, v => v = .bool b
  | .int i, v => ∃ t, v = .int i t
  | .str s, v => ∃ t, v = .str s t
  | .obj k, v => ∃ a, ρ[k]? = some a ∧ v = .ref a
  | .fix w, v => v = w

noncomputable def VRel (ρ : List Addr) : List AV → List Value → Prop
  | [], vs => vs = []
  | a :: as, vs => ∃ v ws, vs = v :: ws ∧ a.rel ρ v ∧ VRel ρ as ws

noncomputable def ERel (P : Params) (ρ : List Addr) : List (Str × AV) → List DictEntry → Prop
  | [], es => es = []
  | (x, a) :: r, es => ∃ t v es', es = ⟨PyData.keyHash P x, .str x t, v⟩ :: es' ∧ a.rel ρ v ∧ ERel P ρ r es'

noncomputable def AO.rel (P : Params) (ρ : List Addr) : AO → Obj → Prop
  | .list l, o => ∃ vs n, o = W.listOf (List.toArray vs) n ∧ VRel ρ l vs
  | .tup l, o => ∃ vs n, o = { cls := .type "tuple", data := .seq (List.toArray vs) n } ∧ VRel ρ l vs
  | .inst C d, o => ∃ dx, ρ[d]? = some dx ∧ o = instObj C dx
  | .dict l, o => ∃ es n, o = dictOf es n ∧ ERel P ρ l es
  | .cell none, o => o = { cls := .type "cell", data := .cell none }
  | .cell (some a), o => ∃ v, o = { cls := .type "cell", data := .cell (some v) } ∧ a.rel ρ v
  | .raw o', o => o = o'
  | .gen G, o => G.P ρ o

theorem idx_app {α : Type} {ρ ρ' : List α} {k : Nat} {a : α} (h : ρ[k]? = some a) : (ρ ++ ρ')[k]? = some a := by
  have := (List.getElem?_eq_some_iff.mp h).1
  rw [List.getElem?_append_left this]; exact h

theorem AV.rel.mono {ρ ρ' : List Addr} {a : AV} {v : Value} (h : a.rel ρ v) : a.rel (ρ ++ ρ') v := by
  cases a with
  | obj k => obtain ⟨x, hx, e⟩ := h; exact ⟨x, idx_app hx, e⟩
  | _ => exact h
theorem VRel.mono {ρ ρ' : List Addr} {as : List AV} {vs : List Value} (h : VRel ρ as vs) : VRel (ρ ++ ρ') as vs := by
  induction as generalizing vs with
  | nil => exact h
  | cons a as ih => obtain ⟨v, ws, e, h, r⟩ := h; exact ⟨v, ws, e, h.mono, ih r⟩
theorem ERel.mono {P : Params} {ρ ρ' : List Addr} {l : List (Str × AV)} {es : List DictEntry} (h : ERel P ρ l es) : ERel P (ρ ++ ρ') l es := by
  induction l generalizing es with
  | nil => exact h
  | cons a as ih => obtain ⟨t, v, es', e, h, r⟩ := h; exact ⟨t, v, es', e, h.mono, ih r⟩
theorem AO.rel.mono {P : Params} {ρ ρ' : List Addr} {o : AO} {b : Obj} (h : o.rel P ρ b) : o.rel P (ρ ++ ρ') b := by
  cases o with
  | list l => obtain ⟨vs, n, e, r⟩ := h; exact ⟨vs, n, e, r.mono⟩
  | tup l => obtain ⟨vs, n, e, r⟩ := h; exact ⟨vs, n, e, r.mono⟩
  | inst C d => obtain ⟨dx, e, r⟩ := h; exact ⟨dx, idx_app e, r⟩
  | dict l => obtain ⟨vs, n, e, r⟩ := h; exact ⟨vs, n, e, r.mono⟩
  | cell v => cases v with
    | none => exact h
    | some a => obtain ⟨v, e, r⟩ := h; exact ⟨v, e, r.mono⟩
  | raw o => exact h
  | gen G => exact G.mono _ _ _ h

theorem VRel.length {ρ : List Addr} {as : List AV} {vs : List Value} (h : VRel ρ as vs) : vs.length = as.length := by
  induction as generalizing vs with
  | nil => cases h; rfl
  | cons a as ih => obtain ⟨v, ws, rfl, _, r⟩ := h; exact congrArg (· + 1) (ih r)
theorem VRel.get {ρ : List Addr} {as : List AV} {vs : List Value} {i : Nat} {a : AV} (h : VRel ρ as vs) (e : as[i]? = some a) : ∃ v, vs[i]? = some v ∧ a.rel ρ v := by
  induction as generalizing vs i with
  | nil => cases e
  | cons b as ih =>
    obtain ⟨v, ws, rfl, h, r⟩ := h
    cases i with
    | zero => cases e; exact ⟨v, rfl, h⟩
    | succ i => have q := ih r e; exact q
theorem VRel.append {ρ : List Addr} {as bs : List AV} {vs ws : List Value} (h : VRel ρ as vs) (h' : VRel ρ bs ws) : VRel ρ (as ++ bs) (vs ++ ws) := by
  induction as generalizing vs with
  | nil => cases h; exact h'
  | cons a as ih => obtain ⟨v, us, rfl, h, r⟩ := h; exact ⟨v, _, rfl, h, ih r⟩
theorem VRel.set {ρ : List Addr} {as : List AV} {vs : List Value} {i : Nat} {a : AV} {v : Value} (h : VRel ρ as vs) (h' : a.rel ρ v) : VRel ρ (as.set i a) (vs.set i v) := by
  induction as generalizing vs i with
  | nil => cases h; rfl
  | cons b as ih =>
    obtain ⟨u, us, rfl, h, r⟩ := h
    cases i with
    | zero => exact ⟨_, _, rfl, h', r⟩
    | succ i => exact ⟨_, _, rfl, h, ih r⟩
theorem VRel.take {ρ : List Addr} {as : List AV} {vs : List Value} (i : Nat) (h : VRel ρ as vs) : VRel ρ (as.take i) (vs.take i) := by
  induction as generalizing vs i with
  | nil => cases h; cases i <;> rfl
  | cons b as ih =>
    cases i with
    | zero => rfl
    | succ i => obtain ⟨u, us, rfl, h, r⟩ := h; exact ⟨_, _, rfl, h, ih i r⟩
theorem VRel.drop {ρ : List Addr} {as : List AV} {vs : List Value} (i : Nat) (h : VRel ρ as vs) : VRel ρ (as.drop i) (vs.drop i) := by
  induction as generalizing vs i with
  | nil => cases h; cases i <;> rfl
  | cons b as ih =>
    cases i with
    | zero => exact h
    | succ i => obtain ⟨u, us, rfl, h, r⟩ := h; exact ih i r

structure St where
  m : List (Str × AV)
  os : List AO
  gn : Array GenState

/-- what is fixed: the program, the world, the written part of the heap -/
structure Wd where
  prog : Program
  w : World
  K : Frag

/-- what the machine reads of the top -/
structure TopR (mg mb : Str → Option Value) (h : Heap) : Prop where
  g : h.Ns mainGlobals mg
  b : h.Ns builtinsNs mb
  nolimit : h.NoLimit
  builtins : ∀ x : Str, x ≠ "__name__" → mb x = bootBuiltins x
theorem TopR.keeps {mg mb : Str → Option Value} {h h' : Heap} (T : TopR mg mb h) (hk : ∀ b o, h.get? b = some o → h'.get? b = some o) : TopR mg mb h' := ⟨T.g.keeps hk, T.b.keeps hk, T.nolimit.keeps hk, T.builtins⟩
theorem TopR.of {p : Program} {loose : List Str} {mean : ExcName → Option Value} {mg mb : Str → Option Value} {h : Heap} (T : Top p loose mean mg mb h) : TopR mg mb h := ⟨T.g, T.b, T.nolimit, T.builtins⟩
/-- an activation -/
structure Cx where
  A : Around
  g : Heap
  room : Nat
  L : Addr
  scope : Scope
  cells : List (Str × Addr)
  qual : Str
  func : Option Addr
  code : Value
  frame : Option Addr
  cl : List (Str × Nat)
  os0 : OsState × Drawn

noncomputable def Cx.env (c : Cx) : Env := { scope := c.scope, locals := c.L, globals := mainGlobals, cells := c.cells, qual := c.qual, func := c.func, code := c.code, frame := c.frame, builtins := builtinsNs }

structure Cx.Ok (W : Wd) (c : Cx) : Prop where
  X : W.K.In c.g
  T : ∃ mg mb, TopR mg mb c.g
  kind : c.scope.kind = .function
  dep : c.A.depth + c.room < recursionLimit
  un : c.A.units + 20 * c.room + 100 < cLine
  hd : c.A.handled = none

noncomputable def LRel (ρ : List Addr) (m : List (Str × AV)) (M : Str → Option Value) : Prop := ∀ x a, m.lookup x = some a → ∃ v, M x = some v ∧ a.rel ρ v

structure ORel (P : Params) (ρ : List Addr) (os : List AO) (h : Heap) : Prop where
  len : ρ.length = os.length
  at_ : ∀ (k : Nat) (o : AO), os[k]? = some o → ∃ (a : Addr) (ob : Obj), ρ[k]? = some a ∧ h.get? a = some ob ∧ o.rel P ρ ob

structure Rp (W : Wd) (c : Cx) (ρ : List Addr) (st : St) (s : Shared) : Prop where
  ok : c.Ok W
  ns : ∃ M, s.heap.Ns c.L M ∧ LRel ρ st.m M
  keep : ∀ b o, c.g.get? b = some o → s.heap.get? b = some o
  above : c.g.objs.size ≤ c.L
  objs : ORel W.w.params ρ st.os s.heap
  fresh : ∀ a ∈ ρ, a ≠ c.L ∧ c.g.get? a = none
  nodup : ρ.Nodup
  cells : ∀ x k, c.cl.lookup x = some k → ∃ a, ρ[k]? = some a ∧ c.cells.lookup x = some a
  gens : s.gens = st.gn
  os : (s.os, s.drawn) = c.os0

noncomputable abbrev Wd.M (W : Wd) : Model := model W.prog W.w

/-- the end of a tree -/
inductive Post (W : Wd) (c : Cx) {α β : Type} (rel : List Addr → β → α → Prop) (ρ : List Addr) (Q : β → St → Prop) (v : α) (s' : Shared) : Prop
  | mk (ρ' : List Addr) (b : β) (st' : St) (h1 : Rp W c (ρ ++ ρ') st' s') (h2 : rel (ρ ++ ρ') b v) (h3 : Q b st')
/-- the triple -/
noncomputable def EvK (W : Wd) (c : Cx) {α β : Type} (rel : List Addr → β → α → Prop) (st : St) (t : Sem α) (Q : β → St → Prop) : Prop :=
  ∀ (ρ : List Addr) (s : Shared) (E : Value → Shared → Prop), Rp W c ρ st s →
    wpAny W.M c.A t (Post W c rel ρ Q) E s
noncomputable abbrev VR : List Addr → AV → Value → Prop := fun ρ a v => AV.rel ρ a v
noncomputable abbrev BR : List Addr → Bool → Bool → Prop := fun _ a b => a = b
noncomputable abbrev UR : List Addr → Unit → Unit → Prop := fun _ _ _ => True
noncomputable abbrev Ev (W : Wd) (c : Cx) (st : St) (t : Sem Value) (Q : AV → St → Prop) : Prop := EvK W c VR st t Q
noncomputable abbrev Evs (W : Wd) (c : Cx) (st : St) (t : Sem (List Value)) (Q : List AV → St → Prop) : Prop := EvK W c VRel st t Q
noncomputable abbrev Tt (W : Wd) (c : Cx) (st : St) (t : Sem Bool) (Q : Bool → St → Prop) : Prop := EvK W c BR st t Q
noncomputable abbrev Un (W : Wd) (c : Cx) (st : St) (t : Sem Unit) (Q : St → Prop) : Prop := EvK W c UR st t (fun _ st => Q st)

inductive AF where
  | next | brk | cont | ret (v : AV)
noncomputable def AF.rel (ρ : List Addr) : AF → Flow → Prop
  | .next, f => f = .next
  | .brk, f => f = .brk
  | .cont, f => f = .cont
  | .ret a, f => ∃ v, f = .ret v ∧ a.rel ρ v
noncomputable abbrev Ex (W : Wd) (c : Cx) (st : St) (t : Sem Flow) (Q : AF → St → Prop) : Prop := EvK W c AF.rel st t Q

/-- a tree that takes real values -/
noncomputable def OpK (W : Wd) (c : Cx) {α β : Type} (rel : List Addr → β → α → Prop) (st : St) (as : List AV) (f : List Value → Sem α) (Q : β → St → Prop) : Prop :=
  ∀ (ρ : List Addr) (s : Shared) (E : Value → Shared → Prop) (vs : List Value), Rp W c ρ st s → VRel ρ as vs →
    wpAny W.M c.A (f vs) (Post W c rel ρ Q) E s
noncomputable def Op1 (W : Wd) (c : Cx) {α β : Type} (rel : List Addr → β → α → Prop) (st : St) (a : AV) (f : Value → Sem α) (Q : β → St → Prop) : Prop :=
  ∀ (ρ : List Addr) (s : Shared) (E : Value → Shared → Prop) (v : Value), Rp W c ρ st s → a.rel ρ v →
    wpAny W.M c.A (f v) (Post W c rel ρ Q) E s
noncomputable def Op2 (W : Wd) (c : Cx) {α β : Type} (rel : List Addr → β → α → Prop) (st : St) (a b : AV) (f : Value → Value → Sem α) (Q : β → St → Prop) : Prop :=
  ∀ (ρ : List Addr) (s : Shared) (E : Value → Shared → Prop) (v u : Value), Rp W c ρ st s → a.rel ρ v → b.rel ρ u →
    wpAny W.M c.A (f v u) (Post W c rel ρ Q) E s
noncomputable def Op3 (W : Wd) (c : Cx) {α β : Type} (rel : List Addr → β → α → Prop) (st : St) (a b d : AV) (f : Value → Value → Value → Sem α) (Q : β → St → Prop) : Prop :=
  ∀ (ρ : List Addr) (s : Shared) (E : Value → Shared → Prop) (v u x : Value), Rp W c ρ st s → a.rel ρ v → b.rel ρ u → d.rel ρ x →
    wpAny W.M c.A (f v u x) (Post W c rel ρ Q) E s

section
variable {W : Wd} {c : Cx} {α β α' β' : Type} {st : St}

theorem EvK.mono {rel : List Addr → β → α → Prop} {t : Sem α} {Q Q' : β → St → Prop} (h : EvK W c rel st t Q) (hQ : ∀ b st, Q b st → Q' b st) : EvK W c rel st t Q' :=
  fun ρ s E r => wpAny_mono (h ρ s E r) (fun v s' ⟨ρ', b, st', a1, a2, a3⟩ => ⟨ρ', b, st', a1, a2, hQ _ _ a3⟩) fun _ _ x => x

theorem EvK.eq {rel : List Addr → β → α → Prop} {t t' : Sem α} {Q : β → St → Prop} (e : t' = t) (h : EvK W c rel st t Q) : EvK W c rel st t' Q := by rw [e]; exact h

theorem EvK.bind1 {rel : List Addr → β' → α' → Prop} {t : Sem Value} {f : Value → Sem α'} {Q : β' → St → Prop}
    (h : Ev W c st t (fun a st1 => Op1 W c rel st1 a f Q)) : EvK W c rel st (t >>= f) Q :=
  fun ρ s E r => wpAny_bind (wpAny_mono (h ρ s E r) (fun v s' ⟨ρ', b, st', a1, a2, a3⟩ =>
    wpAny_mono (a3 _ _ E v a1 a2) (fun v2 s2 ⟨ρ2, b2, st2, b1, b3, b4⟩ => ⟨ρ' ++ ρ2, b2, st2, by rw [← List.append_assoc]; exact b1, by rw [← List.append_assoc]; exact b3, b4⟩) fun _ _ x => x) fun _ _ x => x)

theorem EvK.pure' {rel : List Addr → β → α → Prop} {v : α} {b : β} {Q : β → St → Prop} (hr : ∀ ρ, rel ρ b v) (h : Q b st) : EvK W c rel st (pure v) Q :=
  fun ρ s E r => wpAny_pure ⟨[], b, st, by rw [List.append_nil]; exact r, hr _, h⟩
end
/-- an `if` at the head that is not taken; one that is -/
theorem wp_no {prog : Program} {w : World} {A : Around} {E : Value → Shared → Prop} {s : Shared} {α : Type} {Q : α → Shared → Prop} {b : Prop} [Decidable b] {x y : Sem α} (n : ¬b) (h : wpAny (model prog w) A y Q E s) : wpAny (model prog w) A (if b then x else y) Q E s := by rw [if_neg n]; exact h
theorem wp_yes {prog : Program} {w : World} {A : Around} {E : Value → Shared → Prop} {s : Shared} {α : Type} {Q : α → Shared → Prop} {b : Prop} [Decidable b] {x y : Sem α} (n : b) (h : wpAny (model prog w) A x Q E s) : wpAny (model prog w) A (if b then x else y) Q E s := by rw [if_pos n]; exact h
-- VB
noncomputable def putM (x : Str) (a : AV) : List (Str × AV) → List (Str × AV)
  | [] => [(x, a)]
  | (y, b) :: r => if x == y then (x, a) :: r else (y, b) :: putM x a r
theorem lookup_putM (x : Str) (a : AV) (m : List (Str × AV)) (y : Str) : (putM x a m).lookup y = if y = x then some a else m.lookup y := by
  induction m with
  | nil =>
    show [(x, a)].lookup y = _
    rw [List.lookup_cons]
    by_cases h : y = x
    · rw [if_pos h, beq_iff_eq.mpr h]
    · rw [if_neg h, beq_eq_false_iff_ne.mpr h]
  | cons p r ih =>
    obtain ⟨z, b⟩ := p
    rw [putM]
    by_cases hxz : x = z
    · subst hxz
      rw [if_pos (beq_self_eq_true x), List.lookup_cons, List.lookup_cons]
      by_cases h : y = x
      · rw [if_pos h, beq_iff_eq.mpr h]
      · rw [if_neg h, beq_eq_false_iff_ne.mpr h]
    · rw [if_neg (fun e => hxz (eq_of_beq e)), List.lookup_cons, List.lookup_cons, ih]
      by_cases hy : y = z
      · subst hy
        rw [beq_self_eq_true]
        exact (if_neg (fun e => hxz e.symm)).symm
      · rw [beq_eq_false_iff_ne.mpr hy]
theorem putM_len (x : Str) (a : AV) (l : List (Str × AV)) : (putM x a l).length ≤ l.length + 1 := by
  induction l with
  | nil => exact Nat.le_refl _
  | cons p r ih =>
    rw [putM]
    split
    · exact Nat.le_succ _
    · exact Nat.succ_le_succ ih
theorem putM_le {x : Str} {a : AV} {l : List (Str × AV)} {n : Nat} (h : l.length ≤ n) : (putM x a l).length ≤ n + 1 := Nat.le_trans (putM_len x a l) (Nat.succ_le_succ h)

theorem nodup_inj {l : List Nat} (h : l.Nodup) {i j : Nat} (hi : i < l.length) (hj : j < l.length) (e : l[i] = l[j]) : i = j := by
  rcases Nat.lt_trichotomy i j with q | q | q
  · exact absurd e (List.pairwise_iff_getElem.mp h i j hi hj q)
  · exact q
  · exact absurd e.symm (List.pairwise_iff_getElem.mp h j i hj hi q)

section
variable {W : Wd} {c : Cx} {ρ : List Addr} {st : St} {s : Shared}

theorem Rp.toks (r : Rp W c ρ st s) (n : Nat) : Rp W c ρ st { s with toks := n } := ⟨r.ok, r.ns, r.keep, r.above, r.objs, r.fresh, r.nodup, r.cells, r.gens, r.os⟩

theorem Rp.lt (r : Rp W c ρ st s) {a : Addr} (ha : a ∈ ρ) : a < s.heap.objs.size := by
  obtain ⟨k, hk, rfl⟩ := List.getElem_of_mem ha
  have : k < st.os.length := r.objs.len ▸ hk
  obtain ⟨a, ob, h1, h2, _⟩ := r.objs.at_ k st.os[k] (by simp [this])
  have : ρ[k] = a := by simpa [hk] using h1
  rw [this]; exact Heap.lt_size h2

theorem Rp.fr (r : Rp W c ρ st s) : ∃ M, Fr c.g c.L s.heap M ∧ LRel ρ st.m M := let ⟨M, h1, h2⟩ := r.ns; ⟨M, ⟨h1, r.keep, r.above⟩, h2⟩

theorem Rp.X (r : Rp W c ρ st s) : W.K.In s.heap := r.ok.X.keeps r.keep

theorem Rp.setLocal (r : Rp W c ρ st s) {x : Str} {a : AV} {v : Value} (hv : a.rel ρ v) {M : Str → Option Value} (hM : LRel ρ st.m M) {h' : Heap} {n : Nat}
    (hn : h'.Ns c.L (fun y => if y = x then some v else M y)) (hs : Heap.SameBut c.L s.heap h') : Rp W c ρ { st with m := putM x a st.m } { s with heap := h', toks := n } := by
  refine ⟨r.ok, ⟨_, hn, ?_⟩, ?_, r.above, ⟨r.objs.len, ?_⟩, r.fresh, r.nodup, r.cells, r.gens, r.os⟩
  · intro y b hb
    rw [lookup_putM] at hb
    by_cases hy : y = x
    · simp only [hy, if_true] at hb ⊢
      cases hb; exact ⟨v, rfl, hv⟩
    · simp only [hy, if_false] at hb ⊢
      exact hM y b hb
  · intro b o e
    exact (hs.2 b (Nat.ne_of_lt (Nat.lt_of_lt_of_le (Heap.lt_size e) r.above))).trans (r.keep b o e)
  · intro k o hk
    obtain ⟨a', ob, h1, h2, h3⟩ := r.objs.at_ k o hk
    exact ⟨a', ob, h1, (hs.2 a' (r.fresh a' (List.mem_of_getElem? h1)).1).trans h2, h3⟩

theorem Rp.alloc (r : Rp W c ρ st s) {o : AO} {ob : Obj} (ho : o.rel W.w.params ρ ob) (hf : ob.isFreed = false) :
    Rp W c (ρ ++ [s.heap.objs.size]) { st with os := st.os ++ [o] } { s with heap := s.heap.push ob } := by
  obtain ⟨M, hM, hL⟩ := r.ns
  have hLlt : c.L < s.heap.objs.size := hM.lt
  refine ⟨r.ok, ⟨M, hM.push ob, ?_⟩, ?_, r.above, ⟨?_, ?_⟩, ?_, ?_, ?_, r.gens, r.os⟩
  · intro x a e
    obtain ⟨v, h1, h2⟩ := hL x a e
    exact ⟨v, h1, h2.mono⟩
  · intro b o e; exact Heap.get?_push_of_some _ (r.keep b o e)
  · simp [r.objs.len]
  · intro k o' hk
    by_cases hl : k < st.os.length
    · have hk' : st.os[k]? = some o' := by
        show st.os[k]? = some o'
        have : (st.os ++ [o])[k]? = some o' := hk
        rwa [List.getElem?_append_left hl] at this
      obtain ⟨a, ob', h1, h2, h3⟩ := r.objs.at_ k o' hk'
      exact ⟨a, ob', idx_app h1, Heap.get?_push_of_some _ h2, h3.mono⟩
    · have hk' : (st.os ++ [o])[k]? = some o' := hk
      have hk2 : k = st.os.length := by
        have := (List.getElem?_eq_some_iff.mp hk').1
        simp at this; lsm_bools
      subst hk2
      simp at hk'
      subst hk'
      refine ⟨s.heap.objs.size, ob, by rw [← r.objs.len]; simp, Heap.get?_push_size _ hf, ho.mono⟩
  · intro a ha
    rcases List.mem_append.mp ha with ha | ha
    · exact r.fresh a ha
    · simp at ha; subst ha
      refine ⟨Nat.ne_of_gt hLlt, ?_⟩
      cases hq : c.g.get? s.heap.objs.size with
      | none => rfl
      | some o' => exact absurd (Heap.lt_size (r.keep _ _ hq)) (Nat.lt_irrefl _)
  · rw [List.nodup_append]
    refine ⟨r.nodup, by simp, ?_⟩
    intro a ha b hb
    simp at hb; subst hb
    exact Nat.ne_of_lt (r.lt ha)
  · intro x k e
    obtain ⟨a, h1, h2⟩ := r.cells x k e
    exact ⟨a, idx_app h1, h2⟩

theorem Rp.change (r : Rp W c ρ st s) {k : Nat} {a : Addr} {o' : AO} {ob' : Obj} {h' : Heap} {n : Nat} (hk : ρ[k]? = some a) (hs : Heap.SameBut a s.heap h') (hg : h'.get? a = some ob') (ho : o'.rel W.w.params ρ ob') :
    Rp W c ρ { st with os := st.os.set k o' } { s with heap := h', toks := n } := by
  obtain ⟨M, hM, hL⟩ := r.ns
  have fa := r.fresh a (List.mem_of_getElem? hk)
  refine ⟨r.ok, ⟨M, hM.sameBut hs (Ne.symm fa.1), hL⟩, ?_, r.above, ⟨by simp [r.objs.len], ?_⟩, r.fresh, r.nodup, r.cells, r.gens, r.os⟩
  · intro b o e
    refine (hs.2 b ?_).trans (r.keep b o e)
    intro q; subst q; rw [e] at fa; exact nomatch fa.2
  · intro j o hj
    have hj' : (st.os.set k o')[j]? = some o := hj
    by_cases hjk : k = j
    · subst hjk
      have hlt : k < st.os.length := by
        have := (List.getElem?_eq_some_iff.mp hj').1
        simpa using this
      rw [List.getElem?_set_self hlt] at hj'
      cases hj'
      exact ⟨a, ob', hk, hg, ho⟩
    · rw [List.getElem?_set_ne hjk] at hj'
      obtain ⟨a', ob, h1, h2, h3⟩ := r.objs.at_ j o hj'
      refine ⟨a', ob, h1, (hs.2 a' ?_).trans h2, h3⟩
      intro q
      subst q
      have l1 := (List.getElem?_eq_some_iff.mp hk)
      have l2 := (List.getElem?_eq_some_iff.mp h1)
      obtain ⟨p1, e1⟩ := l1
      obtain ⟨p2, e2⟩ := l2
      exact hjk (nodup_inj r.nodup p1 p2 (e1.trans e2.symm))

theorem Post.here {α β : Type} {rel : List Addr → β → α → Prop} {Q : β → St → Prop} {b : β} {v : α} (h : Q b st) (r : Rp W c ρ st s) (hr : rel ρ b v) : Post W c rel ρ Q v s :=
  ⟨[], b, st, by rw [List.append_nil]; exact r, by rw [List.append_nil]; exact hr, h⟩
theorem Post.on {α β : Type} {rel : List Addr → β → α → Prop} {Q : β → St → Prop} {b : β} {v : α} {ρ' : List Addr} (h : Q b st) (r : Rp W c (ρ ++ ρ') st s) (hr : rel (ρ ++ ρ') b v) : Post W c rel ρ Q v s :=
  ⟨ρ', b, st, r, hr, h⟩
theorem Post.ext {α β : Type} {rel : List Addr → β → α → Prop} {Q : β → St → Prop} {v : α} {ρ' : List Addr} (h : Post W c rel (ρ ++ ρ') Q v s) : Post W c rel ρ Q v s := by
  obtain ⟨ρ2, b, st, a1, a2, a3⟩ := h
  exact ⟨ρ' ++ ρ2, b, st, by rw [← List.append_assoc]; exact a1, by rw [← List.append_assoc]; exact a2, a3⟩
/-- go on from an end -/
theorem wp_on {α β : Type} {rel : List Addr → β → α → Prop} {Q : β → St → Prop} {t : Sem α} {R : α → Shared → Prop} {E : Value → Shared → Prop}
    (h : EvK W c rel st t Q) (r : Rp W c ρ st s) (k : ∀ ρ' b st' v s', Rp W c (ρ ++ ρ') st' s' → rel (ρ ++ ρ') b v → Q b st' → R v s') :
    wpAny W.M c.A t R E s := wpAny_mono (h ρ s E r) (fun v s' ⟨ρ', b, st', a1, a2, a3⟩ => k ρ' b st' v s' a1 a2 a3) fun _ _ x => x
theorem wp_go {α β : Type} {rel : List Addr → β → α → Prop} {Q : β → St → Prop} {t : Sem α} {E : Value → Shared → Prop} {ρ' : List Addr}
    (h : EvK W c rel st t Q) (r : Rp W c (ρ ++ ρ') st s) : wpAny W.M c.A t (Post W c rel ρ Q) E s := wpAny_mono (h _ s E r) (fun _ _ p => Post.ext p) fun _ _ x => x
theorem wp_go1 {α β : Type} {rel : List Addr → β → α → Prop} {Q : β → St → Prop} {a : AV} {f : Value → Sem α} {v : Value} {E : Value → Shared → Prop} {ρ' : List Addr}
    (h : Op1 W c rel st a f Q) (r : Rp W c (ρ ++ ρ') st s) (ha : a.rel (ρ ++ ρ') v) : wpAny W.M c.A (f v) (Post W c rel ρ Q) E s := wpAny_mono (h _ s E v r ha) (fun _ _ p => Post.ext p) fun _ _ x => x
theorem wp_go2 {α β : Type} {rel : List Addr → β → α → Prop} {Q : β → St → Prop} {a b : AV} {f : Value → Value → Sem α} {v u : Value} {E : Value → Shared → Prop} {ρ' : List Addr}
    (h : Op2 W c rel st a b f Q) (r : Rp W c (ρ ++ ρ') st s) (ha : a.rel (ρ ++ ρ') v) (hb : b.rel (ρ ++ ρ') u) : wpAny W.M c.A (f v u) (Post W c rel ρ Q) E s := wpAny_mono (h _ s E v u r ha hb) (fun _ _ p => Post.ext p) fun _ _ x => x
end

section
variable {W : Wd} {c : Cx} {st : St}

/-- names -/
theorem ev_local {x : Str} {pos : Pos} {a : AV} {Q : AV → St → Prop} (hv : st.m.lookup x = some a) (hk : c.scope.names.lookup x = some .local) (hd : (x == ("__debug__" : Str)) = false) (h : Q a st) :
    Ev W c st (eval (.Name x pos) c.env) Q := fun ρ s E r => by
  obtain ⟨M, hn, hl⟩ := r.ns
  obtain ⟨v, h1, h2⟩ := hl x a hv
  exact wpAny_Name (wpAny_loadName_local (env := c.env) r.ok.kind hk hn h1 (Post.here h r h2)) hd
theorem ev_cell {x : Str} {pos : Pos} {k : Nat} {a : AV} {Q : AV → St → Prop} (hc : c.cl.lookup x = some k) (ho : st.os[k]? = some (.cell (some a))) (hk : c.scope.names.lookup x = some .cell) (hd : (x == ("__debug__" : Str)) = false) (h : Q a st) :
    Ev W c st (eval (.Name x pos) c.env) Q := fun ρ s E r => by
  obtain ⟨ca, h1, h2⟩ := r.cells x k hc
  obtain ⟨a', ob, h3, h4, v, h5, h6⟩ := r.objs.at_ k _ ho
  have : ca = a' := Option.some.inj (h1.symm.trans h3)
  subst this; subst h5
  exact wpAny_Name (wpAny_loadName_cell (env := c.env) r.ok.kind hk h2 ⟨_, h4, rfl⟩ (Post.here h r h6)) hd
theorem ev_free {x : Str} {pos : Pos} {k : Nat} {a : AV} {Q : AV → St → Prop} (hc : c.cl.lookup x = some k) (ho : st.os[k]? = some (.cell (some a))) (hk : c.scope.names.lookup x = some .free) (hd : (x == ("__debug__" : Str)) = false)
    (hn : (x == ("__classdict__" : Str)) = false) (h : Q a st) : Ev W c st (eval (.Name x pos) c.env) Q := fun ρ s E r => by
  obtain ⟨ca, h1, h2⟩ := r.cells x k hc
  obtain ⟨a', ob, h3, h4, v, h5, h6⟩ := r.objs.at_ k _ ho
  have : ca = a' := Option.some.inj (h1.symm.trans h3)
  subst this; subst h5
  exact wpAny_Name (wpAny_loadName_free (env := c.env) r.ok.kind hk h2 ⟨_, h4, rfl⟩ (Post.here h r h6) hn) hd
theorem ev_global {x : Str} {pos : Pos} {v : Value} {Q : AV → St → Prop} (e : nsIn W.K mainGlobals x = some (some v)) (hk : c.scope.names.lookup x = some .globalImplicit) (hd : (x == ("__debug__" : Str)) = false) (h : Q (.fix v) st) :
    Ev W c st (eval (.Name x pos) c.env) Q := fun ρ s E r => by
  obtain ⟨mg, mb, T⟩ := r.ok.T
  exact Name_function_global (env := c.env) r.ok.kind hk (loadGlobal_global (env := c.env) (T.g.keeps r.keep) (mg_of r.ok.X T.g e) (Post.here h r rfl)) hd
theorem ev_builtin {x : Str} {pos : Pos} {v : Value} {Q : AV → St → Prop} (e : nsIn W.K mainGlobals x = some none) (hv : bootBuiltins x = some v) (hn : x ≠ "__name__") (hk : c.scope.names.lookup x = some .globalImplicit) (hd : (x == ("__debug__" : Str)) = false) (h : Q (.fix v) st) :
    Ev W c st (eval (.Name x pos) c.env) Q := fun ρ s E r => by
  obtain ⟨mg, mb, T⟩ := r.ok.T
  exact Name_function_global (env := c.env) r.ok.kind hk (loadGlobal_builtin (env := c.env) (T.g.keeps r.keep) (mg_none_of r.ok.X T.g e) (T.b.keeps r.keep) ((T.builtins x hn).trans hv) (Post.here h r rfl)) hd

/-- constants -/
theorem ev_int {i : Int} {k : Nat} {pos : Pos} {env : Env} {Q : AV → St → Prop} (h : Q (.int i) st) : Ev W c st (eval (.Constant (.int i) k pos) env) Q :=
  fun ρ s E r => wpAny_Constant_int (Post.here h (r.toks _) ⟨_, rfl⟩)
theorem ev_str {x : Str} {k : Nat} {pos : Pos} {env : Env} {Q : AV → St → Prop} (h : Q (.str x) st) : Ev W c st (eval (.Constant (.str x) k pos) env) Q :=
  fun ρ s E r => wpAny_Constant_str (Post.here h (r.toks _) ⟨_, rfl⟩)
theorem ev_bool {b : Bool} {k : Nat} {pos : Pos} {env : Env} {Q : AV → St → Prop} (h : Q (.bool b) st) : Ev W c st (eval (.Constant (.bool b) k pos) env) Q :=
  fun ρ s E r => wpAny_Constant_bool (Post.here h r rfl)
theorem ev_none {k : Nat} {pos : Pos} {env : Env} {Q : AV → St → Prop} (h : Q .none st) : Ev W c st (eval (.Constant .none k pos) env) Q :=
  fun ρ s E r => wpAny_Constant_none (Post.here h r rfl)

/-- two operands -/
noncomputable abbrev BinQ (W : Wd) (c : Cx) (r : Expr) (op : Operator) (Q : AV → St → Prop) (a : AV) (st1 : St) : Prop := Ev W c st1 (eval r c.env) (fun b st2 => Op2 W c VR st2 a b (binaryOp op) Q)
noncomputable abbrev CmpQ (W : Wd) (c : Cx) (r : Expr) (op : CmpOp) (Q : AV → St → Prop) (a : AV) (st1 : St) : Prop := Ev W c st1 (eval r c.env) (fun b st2 => Op2 W c VR st2 a b (compareOp op) Q)
noncomputable abbrev BoolQ (Q : Bool → St → Prop) (d : AV) (st3 : St) : Prop := ∃ q, d = .bool q ∧ Q q st3
noncomputable abbrev TruQ (W : Wd) (c : Cx) (Q : Bool → St → Prop) (a : AV) (st1 : St) : Prop := Op1 W c BR st1 a truthy Q
theorem ev_BinOp {l r : Expr} {op : Operator} {pos : Pos} {Q : AV → St → Prop} (h : Ev W c st (eval l c.env) (BinQ W c r op Q)) :
    Ev W c st (eval (.BinOp l op r pos) c.env) Q := fun ρ s E rp => wpAny_BinOp (wp_on h rp fun ρ' a st1 v s1 r1 ra h1 => wp_on h1 r1 fun ρ2 b st2 u s2 r2 rb h2 => by
      rw [List.append_assoc] at r2 rb
      exact wp_go2 h2 r2 (by rw [← List.append_assoc]; exact AV.rel.mono ra) rb)
theorem ev_Compare {l r : Expr} {op : CmpOp} {pos : Pos} {Q : AV → St → Prop} (hm : behindInMarks op r = false) (h : Ev W c st (eval l c.env) (CmpQ W c r op Q)) :
    Ev W c st (eval (.Compare l [op] [r] pos) c.env) Q := fun ρ s E rp => wpAny_Compare1 (wp_on h rp fun ρ' a st1 v s1 r1 ra h1 => wp_on h1 r1 fun ρ2 b st2 u s2 r2 rb h2 => by
      rw [List.append_assoc] at r2 rb
      exact wp_go2 h2 r2 (by rw [← List.append_assoc]; exact AV.rel.mono ra) rb) hm
theorem ev_UnaryOp {x : Expr} {op : UnaryOp} {pos : Pos} {Q : AV → St → Prop} (h : Ev W c st (eval x c.env) (fun a st1 => Op1 W c VR st1 a (unaryOp op) Q)) :
    Ev W c st (eval (.UnaryOp op x pos) c.env) Q := fun ρ s E rp => UnaryOp_ (wp_on h rp fun ρ' a st1 v s1 r1 ra h1 => wp_go1 h1 r1 ra)
theorem ev_IfExp {t b o : Expr} {pos : Pos} {Q : AV → St → Prop} (h : Tt W c st (isTrue t c.env (eval t c.env)) (fun q st1 => (q = true → Ev W c st1 (eval b c.env) Q) ∧ (q = false → Ev W c st1 (eval o c.env) Q))) :
    Ev W c st (eval (.IfExp t b o pos) c.env) Q := fun ρ s E rp => IfExp_ (wp_on h rp fun ρ' q st1 v s1 r1 ra h1 => by
      cases ra
      cases q with
      | true => exact wp_go (h1.1 rfl) r1
      | false => exact wp_go (h1.2 rfl) r1)

/-- tests -/
theorem tt_Compare {l r : Expr} {op : CmpOp} {pos : Pos} {whole : Sem Value} {Q : Bool → St → Prop} (hm : behindInMarks op r = false)
    (h : Ev W c st (eval l c.env) (CmpQ W c r op (BoolQ Q))) :
    Tt W c st (isTrue (.Compare l [op] [r] pos) c.env whole) Q := fun ρ s E rp => wpAny_isTrue_Compare1 (wp_on h rp fun ρ' a st1 v s1 r1 ra h1 => wp_on h1 r1 fun ρ2 b st2 u s2 r2 rb h2 => by
      rw [List.append_assoc] at r2 rb
      refine wpAny_mono (wp_go2 (ρ := ρ) (E := E) h2 r2 (by rw [← List.append_assoc]; exact AV.rel.mono ra) rb) (fun d s3 p => ?_) fun _ _ x => x
      obtain ⟨ρ3, b3, st3, r3, rd, q, e, hq⟩ := p
      subst e
      cases (show d = .bool q from rd)
      exact wpAny_truthy_bool (Post.on hq r3 rfl)) hm
theorem tt_Not {x : Expr} {pos : Pos} {whole : Sem Value} {Q : Bool → St → Prop} (h : Tt W c st (isTrue x c.env (eval x c.env)) (fun b st1 => Q (!b) st1)) :
    Tt W c st (isTrue (.UnaryOp .Not x pos) c.env whole) Q := fun ρ s E rp => isTrue_not (wp_on h rp fun ρ' a st1 v s1 r1 ra h1 => by cases ra; exact Post.on h1 r1 rfl)
/-- the two ways of a test -/
noncomputable abbrev AnQ (W : Wd) (c : Cx) (rest : List Expr) (pos : Pos) (whole : Sem Value) (Q : Bool → St → Prop) (b : Bool) (st1 : St) : Prop := (b = false → Q false st1) ∧ (b = true → Tt W c st1 (isTrue (.BoolOp .And rest pos) c.env whole) Q)
noncomputable abbrev OrQ (W : Wd) (c : Cx) (rest : List Expr) (pos : Pos) (whole : Sem Value) (Q : Bool → St → Prop) (b : Bool) (st1 : St) : Prop := (b = true → Q true st1) ∧ (b = false → Tt W c st1 (isTrue (.BoolOp .Or rest pos) c.env whole) Q)
noncomputable abbrev BrQ (W : Wd) (c : Cx) (body orelse : List Stmt) (Q : AF → St → Prop) (b : Bool) (st1 : St) : Prop := (b = true → Ex W c st1 (execs body c.env) Q) ∧ (b = false → Ex W c st1 (execs orelse c.env) Q)
theorem tt_And {x : Expr} {rest : List Expr} {pos : Pos} {whole : Sem Value} {Q : Bool → St → Prop} (h : Tt W c st (isTrue x c.env (eval x c.env)) (AnQ W c rest pos whole Q)) :
    Tt W c st (isTrue (.BoolOp .And (x :: rest) pos) c.env whole) Q := fun ρ s E rp => isTrue_and (wp_on h rp fun ρ' a st1 v s1 r1 ra h1 => by
      cases ra
      cases a with
      | true => exact wp_go (h1.2 rfl) r1
      | false => exact Post.on (h1.1 rfl) r1 rfl)
theorem tt_And0 {pos : Pos} {whole : Sem Value} {Q : Bool → St → Prop} (h : Q true st) : Tt W c st (isTrue (.BoolOp .And [] pos) c.env whole) Q := fun ρ s E rp => isTrue_and_nil (Post.here h rp rfl)
theorem tt_Or {x : Expr} {rest : List Expr} {pos : Pos} {whole : Sem Value} {Q : Bool → St → Prop} (h : Tt W c st (isTrue x c.env (eval x c.env)) (OrQ W c rest pos whole Q)) :
    Tt W c st (isTrue (.BoolOp .Or (x :: rest) pos) c.env whole) Q := fun ρ s E rp => isTrue_or (wp_on h rp fun ρ' a st1 v s1 r1 ra h1 => by
      cases ra
      cases a with
      | true => exact Post.on (h1.1 rfl) r1 rfl
      | false => exact wp_go (h1.2 rfl) r1)
theorem tt_Or0 {pos : Pos} {whole : Sem Value} {Q : Bool → St → Prop} (h : Q false st) : Tt W c st (isTrue (.BoolOp .Or [] pos) c.env whole) Q := fun ρ s E rp => isTrue_or_nil (Post.here h rp rfl)
theorem tt_plain {e : Expr} {Q : Bool → St → Prop} (hp : isTrue e c.env (eval e c.env) = (do let v ← eval e c.env; standAt e.pos; holding [v] (truthy v)))
    (h : Ev W c st (eval e c.env) (TruQ W c Q)) : Tt W c st (isTrue e c.env (eval e c.env)) Q := fun ρ s E rp =>
  isTrue_plain (wp_on h rp fun ρ' a st1 v s1 r1 ra h1 => wp_go1 h1 r1 ra) hp

/-- statements -/
theorem ex_nil {env : Env} {Q : AF → St → Prop} (h : Q .next st) : Ex W c st (execs [] env) Q := fun ρ s E r => wpAny_execs_nil (Post.here h r rfl)
theorem ex_cons0 {env : Env} {x : Stmt} {rest : List Stmt} {Q : AF → St → Prop} (h : Ex W c st (exec x env) (fun f st1 => (f = .next → Ex W c st1 (execs rest env) Q) ∧ (f ≠ .next → Q f st1))) : Ex W c st (execs (x :: rest) env) Q :=
  fun ρ s E r => wpAny_execs_cons (wp_on h r fun ρ' a st1 v s1 r1 ra h1 => by
    cases a with
    | next => cases ra; exact wp_go (h1.1 rfl) r1
    | brk => cases ra; exact Post.on (h1.2 nofun) r1 rfl
    | cont => cases ra; exact Post.on (h1.2 nofun) r1 rfl
    | ret a => obtain ⟨u, e, q⟩ := ra; subst e; exact Post.on (h1.2 nofun) r1 ⟨u, rfl, q⟩)
/-- what comes behind a statement -/
noncomputable def SeqQ (W : Wd) (c : Cx) (rest : List Stmt) (env : Env) (Q : AF → St → Prop) (f : AF) (st1 : St) : Prop := (f = .next → Ex W c st1 (execs rest env) Q) ∧ (f ≠ .next → Q f st1)
theorem ex_cons {env : Env} {x : Stmt} {rest : List Stmt} {Q : AF → St → Prop} (h : Ex W c st (exec x env) (SeqQ W c rest env Q)) : Ex W c st (execs (x :: rest) env) Q := ex_cons0 h
theorem seq_next {env : Env} {rest : List Stmt} {Q : AF → St → Prop} (h : Ex W c st (execs rest env) Q) : SeqQ W c rest env Q .next st := ⟨fun _ => h, fun e => absurd rfl e⟩
theorem seq_brk {env : Env} {rest : List Stmt} {Q : AF → St → Prop} (h : Q .brk st) : SeqQ W c rest env Q .brk st := ⟨nofun, fun _ => h⟩
theorem seq_cont {env : Env} {rest : List Stmt} {Q : AF → St → Prop} (h : Q .cont st) : SeqQ W c rest env Q .cont st := ⟨nofun, fun _ => h⟩
theorem seq_ret {env : Env} {rest : List Stmt} {Q : AF → St → Prop} {a : AV} (h : Q (.ret a) st) : SeqQ W c rest env Q (.ret a) st := ⟨nofun, fun _ => h⟩
theorem ex_If {test : Expr} {body orelse : List Stmt} {pos : Pos} {Q : AF → St → Prop}
    (h : Tt W c st (isTrue test c.env (eval test c.env)) (BrQ W c body orelse Q)) :
    Ex W c st (exec (.If test body orelse pos) c.env) Q := fun ρ s E r => wpAny_If (wp_on h r fun ρ' a st1 v s1 r1 ra h1 => by
      cases ra
      cases a with
      | true => exact wp_go (h1.1 rfl) r1
      | false => exact wp_go (h1.2 rfl) r1)
theorem ex_Return {e : Expr} {pos : Pos} {Q : AF → St → Prop} (h : Ev W c st (eval e c.env) (fun a st1 => Q (.ret a) st1)) : Ex W c st (exec (.Return (some e) pos) c.env) Q :=
  fun ρ s E r => wpAny_Return_some (wp_on h r fun ρ' a st1 v s1 r1 ra h1 => Post.on h1 r1 ⟨v, rfl, ra⟩)
theorem ex_Break {pos : Pos} {env : Env} {Q : AF → St → Prop} (h : Q .brk st) : Ex W c st (exec (.Break pos) env) Q := fun ρ s E r => wpAny_Break (Post.here h r rfl)
theorem ex_Continue {pos : Pos} {env : Env} {Q : AF → St → Prop} (h : Q .cont st) : Ex W c st (exec (.Continue pos) env) Q := fun ρ s E r => wpAny_Continue (Post.here h r rfl)

theorem wp_storeLocal {ρ : List Addr} {s : Shared} {E : Value → Shared → Prop} {x : Str} {a : AV} {v : Value} {R : Unit → Shared → Prop} (r : Rp W c ρ st s) (hv : a.rel ρ v) (hk : c.scope.names.lookup x = some .local)
    (h : ∀ s', Rp W c ρ { st with m := putM x a st.m } s' → R () s') : wpAny W.M c.A (storeName c.env x v) R E s := by
  obtain ⟨M, hn, hl⟩ := r.ns
  refine wpAny_storeName_local (env := c.env) hk hn (fun h' hn' hs => h _ (r.setLocal hv hl hn' hs)) ?_
  show (c.scope.kind == .class || (c.scope.kind == .module && c.L != mainGlobals)) = false
  rw [r.ok.kind]; rfl
theorem wp_storeCell {ρ : List Addr} {s : Shared} {E : Value → Shared → Prop} {x : Str} {k : Nat} {o : Option AV} {a : AV} {v : Value} {R : Unit → Shared → Prop} (r : Rp W c ρ st s) (hv : a.rel ρ v) (hc : c.cl.lookup x = some k) (ho : st.os[k]? = some (.cell o))
    (hk : c.scope.names.lookup x = some .cell) (h : ∀ s', Rp W c ρ { st with os := st.os.set k (.cell (some a)) } s' → R () s') : wpAny W.M c.A (storeName c.env x v) R E s := by
  obtain ⟨ca, h1, h2⟩ := r.cells x k hc
  obtain ⟨a', ob, h3, h4, h5⟩ := r.objs.at_ k _ ho
  have : ca = a' := Option.some.inj (h1.symm.trans h3)
  subst this
  have hob : ∃ ov, ob = { cls := .type "cell", data := .cell ov } := by
    cases o with
    | none => exact ⟨_, h5⟩
    | some a => obtain ⟨v, e, _⟩ := h5; exact ⟨_, e⟩
  obtain ⟨ov, rfl⟩ := hob
  unfold storeName
  simp only [show c.env.kindOf x = some .cell from hk, show c.env.scope.kind = .function from r.ok.kind]
  refine wpAny_bind (wpAny_cellOf h2 ?_)
  unfold cellSet
  refine wpAny_bind (wpAny_load h4 (wpAny_update h4 (h _ (r.change (o' := .cell (some a)) (ob' := { cls := .type "cell", data := .cell (some v) }) h1 (Heap.SameBut.update ..) (Heap.get?_update_self _ h4 rfl) ?_))))
  exact ⟨v, rfl, hv⟩

theorem ex_Assign {x : Str} {pos' pos : Pos} {value : Expr} {Q : AF → St → Prop} (hs : swapsWith value (some (.Name x pos')) pos.line c.env = pure false) (hk : c.scope.names.lookup x = some .local)
    (h : Ev W c st (eval value c.env) (fun a st1 => Q .next { st1 with m := putM x a st1.m })) : Ex W c st (exec (.Assign [.Name x pos'] value pos) c.env) Q :=
  fun ρ s E r => wpAny_Assign_Name (wp_on h r fun ρ' a st1 v s1 r1 ra h1 => wp_storeLocal r1 ra hk fun s' r' => Post.on h1 r' rfl) hs
theorem ex_AssignC {x : Str} {pos' pos : Pos} {value : Expr} {k : Nat} {Q : AF → St → Prop} (hs : swapsWith value (some (.Name x pos')) pos.line c.env = pure false) (hk : c.scope.names.lookup x = some .cell) (hc : c.cl.lookup x = some k)
    (h : Ev W c st (eval value c.env) (fun a st1 => (∃ o, st1.os[k]? = some (.cell o)) ∧ Q .next { st1 with os := st1.os.set k (.cell (some a)) })) : Ex W c st (exec (.Assign [.Name x pos'] value pos) c.env) Q :=
  fun ρ s E r => wpAny_Assign_Name (wp_on h r fun ρ' a st1 v s1 r1 ra ⟨⟨o, ho⟩, h1⟩ => wp_storeCell r1 ra hc ho hk fun s' r' => Post.on h1 r' rfl) hs
end
-- VC
section
variable {W : Wd} {c : Cx} {st : St} {ρ : List Addr} {s : Shared}

/-- where a list lies; a tuple -/
inductive ListR (ρ : List Addr) (s : Shared) (k : Nat) (l : List AV) (v : Value) : Prop
  | mk (a : Addr) (vs : List Value) (n : Nat) (e : v = .ref a) (h1 : ρ[k]? = some a) (h2 : s.heap.get? a = some (PySem.W.listOf (List.toArray vs) n)) (h3 : VRel ρ l vs)
inductive TupR (ρ : List Addr) (s : Shared) (k : Nat) (l : List AV) (v : Value) : Prop
  | mk (a : Addr) (vs : List Value) (n : Nat) (e : v = .ref a) (h1 : ρ[k]? = some a) (h2 : s.heap.get? a = some { cls := .type "tuple", data := .seq (List.toArray vs) n }) (h3 : VRel ρ l vs)
theorem Rp.list (r : Rp W c ρ st s) {k : Nat} {l : List AV} {v : Value} (hk : st.os[k]? = some (.list l)) (hv : AV.rel ρ (.obj k) v) :
    ListR ρ s k l v := by
  obtain ⟨a, ob, h1, h2, vs, n, h3, h4⟩ := r.objs.at_ k _ hk
  obtain ⟨a', h5, h6⟩ := hv
  rw [h1] at h5; cases h5
  subst h3
  exact ⟨a, vs, n, h6, h1, h2, h4⟩
theorem Rp.tup (r : Rp W c ρ st s) {k : Nat} {l : List AV} {v : Value} (hk : st.os[k]? = some (.tup l)) (hv : AV.rel ρ (.obj k) v) :
    TupR ρ s k l v := by
  obtain ⟨a, ob, h1, h2, vs, n, h3, h4⟩ := r.objs.at_ k _ hk
  obtain ⟨a', h5, h6⟩ := hv
  rw [h1] at h5; cases h5
  subst h3
  exact ⟨a, vs, n, h6, h1, h2, h4⟩
end

/-! calls -/
noncomputable def KeepOk (W : Wd) (f : Value) : Prop := ∀ h, W.K.In h → ∃ k, (k = Keeper.frame ∨ k = Keeper.machine ∨ k = Keeper.boundFrame) ∧ Looks W.M h (keeperOf f) k
theorem keep_K {W : Wd} {f : Value} (h : keepIn W.K f = true) : KeepOk W f := fun hp X => keeps_K h hp X
theorem keep_B {W : Wd} {id : String} : KeepOk W (.builtin id) := fun hp X => ⟨.machine, .inr (.inl rfl), Looks.of_pure rfl⟩
theorem keep_T {W : Wd} {id : String} : KeepOk W (.type id) := fun hp X => ⟨.machine, .inr (.inl rfl), Looks.of_pure rfl⟩

noncomputable def CallV (W : Wd) (c : Cx) (st : St) (f : Value) (as : List AV) (Q : AV → St → Prop) : Prop := OpK W c VR st as (fun vs => call f vs) Q
noncomputable def GetM (W : Wd) (c : Cx) (st : St) (oa : AV) (name : Str) (Q : Value → List AV → St → Prop) : Prop :=
  ∀ (ρ : List Addr) (s : Shared) (E : Value → Shared → Prop) (v : Value) (pl : Sem Bool), Rp W c ρ st s → oa.rel ρ v →
    wpAny W.M c.A (getMethod v name pl) (fun fx s' => ∃ first st', VRel ρ first fx.2 ∧ Rp W c ρ st' s' ∧ KeepOk W fx.1 ∧ Q fx.1 first st') E s

section
variable {W : Wd} {c : Cx} {st : St}

theorem wp_evalArgs {M : Model} {A : Around} {E : Value → Shared → Prop} {s : Shared} {f : Value} {Q : Args → Shared → Prop} : ∀ {args : List (Bool × Sem Value)}, args.any (·.1) = false → wpAny M A (spliced args) (fun vs s' => Q ⟨vs, []⟩ s') E s → wpAny M A (evalArgs f true args []) Q E s
  | [], _, h => by
    unfold evalArgs
    show wpAny M A (spliced [] >>= _) Q E s
    refine wpAny_bind (wpAny_mono h (fun vs s' h' => ?_) fun _ _ x => x)
    refine wpAny_holding ?_
    exact wpAny_bind (wpAny_pure (wpAny_bind (wpAny_pure (wpAny_pure h'))))
  | (false, x) :: rest, _, h => evalArgs_plain h
  | (true, x) :: rest, hp, _ => by simp at hp

theorem ev_args_nil {pos : Pos} {env : Env} {Q : List AV → St → Prop} (h : Q [] st) : Evs W c st (spliced (backTo pos (starEach [] env))) Q :=
  fun ρ s E r => spliced_nil (Post.here h r rfl)
noncomputable abbrev ArgQ (W : Wd) (c : Cx) (pos : Pos) (rest : List Expr) (Q : List AV → St → Prop) (a : AV) (st1 : St) : Prop := Evs W c st1 (spliced (backTo pos (starEach rest c.env))) (fun as st2 => Q (a :: as) st2)
noncomputable abbrev CaQ (W : Wd) (c : Cx) (args : List Expr) (pos : Pos) (Q : AV → St → Prop) (fa : AV) (st1 : St) : Prop := ∃ f, fa = .fix f ∧ KeepOk W f ∧ Evs W c st1 (spliced (backTo pos (starEach args c.env))) (fun as st2 => CallV W c st2 f as Q)
noncomputable abbrev MeQ (W : Wd) (c : Cx) (args : List Expr) (pos : Pos) (Q : AV → St → Prop) (f : Value) (first : List AV) (st2 : St) : Prop := Evs W c st2 (spliced (backTo pos (starEach args c.env))) (fun as st3 => CallV W c st3 f (first ++ as) Q)
theorem ev_args_cons {pos : Pos} {e : Expr} {rest : List Expr} {Q : List AV → St → Prop} (he : starEach (e :: rest) c.env = (false, eval e c.env) :: starEach rest c.env)
    (h : Ev W c st (eval e c.env) (ArgQ W c pos rest Q)) : Evs W c st (spliced (backTo pos (starEach (e :: rest) c.env))) Q := fun ρ s E r => by
  rw [he]
  show wpAny _ _ (spliced ((false, eval e c.env) :: backTo pos (starEach rest c.env))) _ _ _
  exact spliced_cons (wp_on h r fun ρ' a st1 v s1 r1 ra h1 => wp_on h1 r1 fun ρ2 b st2 u s2 r2 rb h2 => by
    rw [List.append_assoc] at r2 rb
    exact Post.on h2 r2 ⟨v, u, rfl, by rw [← List.append_assoc]; exact ra.mono, rb⟩)

theorem ev_Call {x : Str} {np pos : Pos} {args : List Expr} {Q : AV → St → Prop} (hp : (backTo pos (starEach args c.env)).any (·.1) = false)
    (h : Ev W c st (eval (.Name x np) c.env) (CaQ W c args pos Q)) :
    Ev W c st (eval (.Call (.Name x np) args [] pos) c.env) Q := fun ρ s E r => by
  refine wpAny_Call_ofName (wp_on h r fun ρ' a st1 v s1 r1 ra ⟨f, ef, hk, h1⟩ => ?_)
  subst ef
  cases (show v = f from ra)
  refine callWith_of (P := W.K.In) (keywords := []) (by rw [hp]; rfl) hk (wp_evalArgs hp (wp_on h1 r1 fun ρ2 as st2 vs s2 r2 rb h2 => ⟨r2.X, ?_⟩))
  rw [List.append_assoc] at r2 rb
  exact wpAny_mono (h2 _ s2 E vs r2 rb) (fun _ _ p => Post.ext p) fun _ _ x => x

theorem ev_CallM {o : Expr} {name : Str} {apos pos : Pos} {args : List Expr} {pl : Sem Bool} {Q : AV → St → Prop} (hp : (backTo pos (starEach args c.env)).any (·.1) = false)
    (he : eval (.Call (.Attribute o name apos) args [] pos) c.env = (do
      let ov ← eval o c.env
      standAt apos.atName
      let (f, first) ← holding [ov] (getMethod ov name pl)
      callWith pos f first (backTo pos (starEach args c.env)) (backToKw pos (keywordEach [] c.env))))
    (h : Ev W c st (eval o c.env) (fun oa st1 => GetM W c st1 oa name (MeQ W c args pos Q))) :
    Ev W c st (eval (.Call (.Attribute o name apos) args [] pos) c.env) Q := fun ρ s E r => by
  refine methodCall_KW (pl := pl) (wp_on h r fun ρ' a st1 v s1 r1 ra h1 => ?_) he
  refine wpAny_mono (h1 _ s1 E v pl r1 ra) (fun fx s2 ⟨first, st2, hf, r2, hk, h2⟩ => ?_) fun _ _ x => x
  refine callWith_of (P := W.K.In) (keywords := []) (by rw [hp]; rfl) hk (wp_evalArgs hp (wp_on h2 r2 fun ρ2 as st3 vs s3 r3 rb h3 => ⟨r3.X, ?_⟩))
  have hv : VRel ((ρ ++ ρ') ++ ρ2) (first ++ as) (fx.2 ++ vs) := VRel.append hf.mono rb
  rw [List.append_assoc] at r3 hv
  exact wpAny_mono (h3 _ s3 E _ r3 hv) (fun _ _ p => Post.ext p) fun _ _ x => x

theorem getM_list {k : Nat} {l : List AV} {name : Str} {id : String} {Q : Value → List AV → St → Prop} (hk : st.os[k]? = some (.list l)) (slot : Slot "list" name id) (hty : typeOf (.builtin id) = pure (.type "method_descriptor"))
    (h : Q (.builtin id) [.obj k] st) : GetM W c st (.obj k) name Q := fun ρ s E v pl r hv => by
  obtain ⟨a, vs, n, e, h1, h2, h3⟩ := r.list hk hv
  subst e
  exact getMethod_builtin (T := "list") ⟨_, h2, rfl⟩ PySem.F.plainAttrs_list slot hty (fun a' e => by cases e; exact ⟨_, h2, rfl⟩) ⟨[.obj k], st, ⟨_, [], rfl, hv, rfl⟩, r, keep_B, h⟩
theorem getM_str {x : Str} {name : Str} {id : String} {Q : Value → List AV → St → Prop} (slot : Slot "str" name id) (hty : typeOf (.builtin id) = pure (.type "method_descriptor"))
    (h : Q (.builtin id) [.str x] st) : GetM W c st (.str x) name Q := fun ρ s E v pl r hv => by
  obtain ⟨t, e⟩ := hv
  subst e
  exact getMethod_builtin (T := "str") (PySem.typeIs_str s x t) PySem.F.plainAttrs_str slot hty (fun a' e => by cases e) ⟨[.str x], st, ⟨_, [], rfl, ⟨t, rfl⟩, rfl⟩, r, keep_B, h⟩

/-! ints -/
theorem op_add {x y : Int} {Q : AV → St → Prop} (h : Q (.int (x + y)) st) : Op2 W c VR st (.int x) (.int y) (binaryOp .Add) Q := fun ρ s E v u r ⟨t, e⟩ ⟨t', e'⟩ => by
  subst e; subst e'; exact PySem.P.add_int (Post.here h (r.toks _) ⟨_, rfl⟩)
end
-- VD
/-- arguments laid as locals -/
noncomputable def MRel (ρ : List Addr) : List (Str × AV) → List (Str × Value) → Prop
  | [], b => b = []
  | (x, a) :: r, b => ∃ v b', b = (x, v) :: b' ∧ a.rel ρ v ∧ MRel ρ r b'
theorem MRel.keys {ρ : List Addr} {m : List (Str × AV)} {b : List (Str × Value)} (h : MRel ρ m b) : b.map (·.1) = m.map (·.1) := by
  induction m generalizing b with
  | nil => cases h; rfl
  | cons p m ih => obtain ⟨v, b', rfl, _, r⟩ := h; exact congrArg (p.1 :: ·) (ih r)
theorem MRel.get {ρ : List Addr} : ∀ {m : List (Str × AV)} {b : List (Str × Value)} {x : Str} {a : AV}, MRel ρ m b → m.lookup x = some a → ∃ v, b.lookup x = some v ∧ a.rel ρ v
  | [], _, _, _, _, e => by simp at e
  | (y, a') :: _, _, x, a, ⟨v, b', e, h, r⟩, e' => by
    subst e
    by_cases hx : x = y
    · subst hx; simp at e'; subst e'; exact ⟨v, by simp, h⟩
    · have : (x == y) = false := by simpa using hx
      simp only [List.lookup, this] at e' ⊢
      exact MRel.get r e'
theorem lookup_nodup_rev {b : List (Str × Value)} (hn : (b.map (·.1)).Nodup) (x : Str) : b.reverse.lookup x = b.lookup x := by
  induction b with
  | nil => rfl
  | cons p r ih =>
    obtain ⟨y, v⟩ := p
    simp only [List.map_cons, List.nodup_cons] at hn
    have ih := ih hn.2
    simp only [List.reverse_cons, List.lookup_append, List.lookup_cons, List.lookup_nil]
    by_cases hx : x = y
    · subst hx
      have : r.reverse.lookup x = none := by
        rw [ih]
        rw [List.lookup_eq_none_iff]
        intro p hp
        simp only [beq_eq_false_iff_ne, ne_eq, bne_iff_ne]
        intro e
        exact hn.1 (by rw [e]; exact List.mem_map_of_mem hp)
      simp [this]
    · have : (x == y) = false := by simpa using hx
      simp only [this, ih, Option.or_none]

theorem hideAll_ge {ρ : List Addr} {h : Heap} {b : Addr} {o : Obj} (e : h.get? b = some o) (hb : b ∉ ρ) : (hideAll h ρ).get? b = some o := hideAll_get ρ e hb

section
variable {W : Wd} {c c' : Cx} {st st' : St} {ρ ρ' : List Addr} {s s' : Shared}

theorem Rp.notin (r : Rp W c ρ st s) : c.L ∉ ρ := fun h => (r.fresh _ h).1 rfl
theorem Rp.keepH (r : Rp W c ρ st s) : ∀ b o, c.g.get? b = some o → (hideAll s.heap ρ).get? b = some o := fun b o e =>
  hideAll_get ρ (r.keep b o e) fun hb => by have := (r.fresh b hb).2; rw [e] at this; cases this

/-- back from an inner activation -/
theorem Rp.leave (r : Rp W c ρ st s) (r' : Rp W c' (ρ ++ ρ') st' s') (hg : c'.g = hideAll s.heap ρ) (ho : c'.os0 = c.os0) :
    Rp W c (ρ ++ ρ') { m := st.m, os := st'.os, gn := st'.gn } s' := by
  obtain ⟨M, hM, hL⟩ := r.ns
  obtain ⟨oL, es, ep, h1, h2, h3, h4⟩ := hM
  have hLg : c'.g.get? c.L = some oL := by rw [hg]; exact hideAll_get ρ h1 r.notin
  refine ⟨r.ok, ⟨M, ⟨oL, es, ep, r'.keep _ _ hLg, h2, h3, h4⟩, fun x a e => ?_⟩, fun b o e => r'.keep b o (by rw [hg]; exact r.keepH b o e), r.above, r'.objs, fun a ha => ⟨?_, ?_⟩, r'.nodup, fun x k e => ?_, r'.gens, r'.os.trans ho⟩
  · obtain ⟨v, e1, e2⟩ := hL x a e; exact ⟨v, e1, e2.mono⟩
  · intro e; subst e
    have := (r'.fresh _ ha).2; rw [hLg] at this; cases this
  · cases q : c.g.get? a with
    | none => rfl
    | some o =>
      have := (r'.fresh _ ha).2
      rw [hg, r.keepH a o q] at this; cases this
  · obtain ⟨a, e1, e2⟩ := r.cells x k e; exact ⟨a, idx_app e1, e2⟩

theorem Cx.Ok.enter (k : c.Ok W) (r : Rp W c ρ st s) {A : Around} {env : Env} (hroom : 1 ≤ c.room) (hA : A = c.A.deeper env) (hk : c'.scope.kind = .function) (h1 : c'.A = A) (h2 : c'.g = hideAll s.heap ρ) (h3 : c'.room + 1 = c.room) : c'.Ok W := by
  obtain ⟨mg, mb, T⟩ := k.T
  refine ⟨by rw [h2]; exact k.X.keeps r.keepH, ⟨mg, mb, by rw [h2]; exact T.keeps r.keepH⟩, hk, ?_, ?_, ?_⟩
  · rw [h1, hA]; show c.A.depth + 1 + c'.room < _; have := k.dep; lsm_bools
  · rw [h1, hA]; show c.A.units + 3 + 20 * c'.room + 100 < _; have := k.un; lsm_bools
  · rw [h1, hA]; exact k.hd

noncomputable abbrev RetQ (m : List (Str × AV)) (Q : AV → St → Prop) (fl : AF) (st' : St) : Prop := match fl with | .ret v => Q v ⟨m, st'.os, st'.gn⟩ | .next => Q .none ⟨m, st'.os, st'.gn⟩ | _ => False
theorem call_fn {f : Addr} {as : List AV} {m0 : List (Str × AV)} {Q : AV → St → Prop} {name qual : Str} {params : Arguments} {body : List Stmt} {scope : Scope} {dV kV doc pm cdv ct oc : Value} {an od : Option Addr} {osl : Array (Option Value)}
    (ho : W.K.lookup f = some ⟨oc, od, .func (fnOf name qual params body scope dV kV doc pm an cdv ct), osl⟩) (hcd : codeIn W.K cdv qual = true) (hroom : 1 ≤ c.room)
    (hb : ∀ ρ s vs, W.K.In s.heap → VRel ρ as vs → ∃ binds, BindsTo s (fnOf name qual params body scope dV kV doc pm an cdv ct) ⟨vs, []⟩ binds ∧ MRel ρ m0 binds)
    (hm : (m0.map (·.1)).Nodup) (hloc : ∀ y ∈ m0.map (·.1), scope.names.lookup y = some .local)
    (hco : scope.isCoroutine = false) (hgen : scope.isGenerator = false) (hk : scope.kind = .function) (hcell : ∀ x ∈ scope.names, x.2 ≠ .cell)
    (h : ∀ c' : Cx, c'.scope = scope → c'.cl = [] → c'.room + 1 = c.room → Ex W c' { m := m0, os := st.os, gn := st.gn } (execs body c'.env)
      (RetQ st.m Q)) :
    CallV W c st (.ref f) as Q := fun ρ s E vs r hv => by
  obtain ⟨binds, hbt, hbr⟩ := hb ρ s vs r.X hv
  obtain ⟨mg, mb, T⟩ := r.ok.T
  refine wpAny_call (codeAny_call_def (fd := fnOf name qual params body scope dV kV doc pm an cdv ct) (body := body) (binds := binds) (by have := r.ok.dep; lsm_bools) (r.X _ _ ho) rfl (T.nolimit.keeps r.keep) (codeRec_of r.X hcd) rfl hbt hcell ?_ (fun h₁ hns hk₁ => ?_) hco hgen hk)
  · intro x hx
    exact hloc x.1 (by rw [← hbr.keys]; exact List.mem_map_of_mem hx)
  · let c' : Cx := { A := c.A.deeper (callEnv (fnOf name qual params body scope dV kV doc pm an cdv ct) s.heap.objs.size f), g := hideAll s.heap ρ, room := c.room - 1, L := s.heap.objs.size, scope := scope, cells := [], qual := qual ++ ".<locals>.", func := some f, code := cdv, frame := some s.heap.objs.size, cl := [], os0 := c.os0 }
    have hn : (binds.map (·.1)).Nodup := by rw [hbr.keys]; exact hm
    have r' : Rp W c' ρ { m := m0, os := st.os, gn := st.gn } { s with heap := h₁, toks := s.toks + binds.length } := by
      refine ⟨r.ok.enter (A := c'.A) (env := callEnv (fnOf name qual params body scope dV kV doc pm an cdv ct) s.heap.objs.size f) r hroom rfl hk rfl rfl (by show c.room - 1 + 1 = c.room; lsm_bools), ⟨_, hns, fun x a e => ?_⟩, fun b o e => hk₁ b o (of_hideAll _ e), Nat.le_of_eq (hideAll_size _ _), ⟨r.objs.len, fun k o e => ?_⟩, fun a ha => ⟨Nat.ne_of_lt (r.lt ha), hideAll_none _ ha⟩, r.nodup, fun x k e => (by cases e), r.gens, r.os⟩
      · obtain ⟨v, e1, e2⟩ := hbr.get e
        exact ⟨v, by rw [lookup_nodup_rev hn]; exact e1, e2⟩
      · obtain ⟨a, ob, e1, e2, e3⟩ := r.objs.at_ k o e
        exact ⟨a, ob, e1, hk₁ _ _ e2, e3⟩
    refine wpAny_mono (h c' rfl rfl (by show c.room - 1 + 1 = c.room; lsm_bools) ρ _ _ r') (fun fl s' p => ?_) fun _ _ x => x
    obtain ⟨ρ', fa, st', r2, hf, hq⟩ := p
    have rb := r.leave r2 rfl rfl
    cases fa with
    | next => cases hf; exact Post.on hq rb rfl
    | ret a => obtain ⟨u, e, hu⟩ := hf; subst e; exact Post.on hq rb hu
    | brk => exact hq.elim
    | cont => exact hq.elim
end

theorem MRel.zip {ρ : List Addr} {m : List (Str × AV)} {vs : List Value} (h : VRel ρ (m.map (·.2)) vs) : MRel ρ m ((m.map (·.1)).zip vs) := by
  induction m generalizing vs with
  | nil => cases h; rfl
  | cons p m ih => obtain ⟨v, ws, rfl, h, q⟩ := h; exact ⟨v, _, rfl, h, ih q⟩
/-- a call by place alone -/
theorem call_pos {W : Wd} {c : Cx} {st : St} {f : Addr} (m0 : List (Str × AV)) {Q : AV → St → Prop} {name qual : Str} {params : Arguments} {body : List Stmt} {scope : Scope} {dV kV doc pm cdv ct oc : Value} {an od : Option Addr} {osl : Array (Option Value)}
    (ho : W.K.lookup f = some ⟨oc, od, .func (fnOf name qual params body scope dV kV doc pm an cdv ct), osl⟩) (hcd : codeIn W.K cdv qual = true) (hroom : 1 ≤ c.room)
    (hb : ∀ vs : List Value, vs.length = m0.length → bindArgs (fnOf name qual params body scope dV kV doc pm an cdv ct) ⟨vs, []⟩ = pure ((m0.map (·.1)).zip vs))
    (hm : (m0.map (·.1)).Nodup) (hloc : ∀ y ∈ m0.map (·.1), scope.names.lookup y = some .local)
    (hco : scope.isCoroutine = false) (hgen : scope.isGenerator = false) (hk : scope.kind = .function) (hcell : ∀ x ∈ scope.names, x.2 ≠ .cell)
    (h : ∀ c' : Cx, c'.scope = scope → c'.cl = [] → c'.room + 1 = c.room → Ex W c' { m := m0, os := st.os, gn := st.gn } (execs body c'.env)
      (RetQ st.m Q)) :
    CallV W c st (.ref f) (m0.map (·.2)) Q :=
  call_fn ho hcd hroom (fun ρ s vs X hv => ⟨_, BindsTo.of_eq (hb vs (by rw [hv.length, List.length_map])), MRel.zip hv⟩) hm hloc hco hgen hk hcell h
theorem len_c {vs : List Value} {n : Nat} (h : vs.length = n + 1) : ∃ a r, vs = a :: r ∧ r.length = n := by
  cases vs with
  | nil => cases h
  | cons a r => exact ⟨a, r, rfl, Nat.succ.inj h⟩
theorem len1 {vs : List Value} (h : vs.length = 1) : ∃ a, vs = [a] := by
  obtain ⟨a, r, rfl, h'⟩ := len_c h
  obtain rfl := List.length_eq_zero_iff.mp h'
  exact ⟨a, rfl⟩
theorem len2 {vs : List Value} (h : vs.length = 2) : ∃ a b, vs = [a, b] := by
  obtain ⟨a, r, rfl, h'⟩ := len_c h
  obtain ⟨b, rfl⟩ := len1 h'
  exact ⟨a, b, rfl⟩
theorem len3 {vs : List Value} (h : vs.length = 3) : ∃ a b d, vs = [a, b, d] := by
  obtain ⟨a, r, rfl, h'⟩ := len_c h
  obtain ⟨b, d, rfl⟩ := len2 h'
  exact ⟨a, b, d, rfl⟩
theorem hb1 {fd : FuncData} {ns : List Str} {n : Nat} (h : ∀ a, bindArgs fd ⟨[a], []⟩ = pure (ns.zip [a])) (hn : n = 1 := by rfl) : ∀ vs : List Value, vs.length = n → bindArgs fd ⟨vs, []⟩ = pure (ns.zip vs) := by
  subst hn; intro vs hv; obtain ⟨a, rfl⟩ := len1 hv; exact h a
theorem hb2 {fd : FuncData} {ns : List Str} {n : Nat} (h : ∀ a b, bindArgs fd ⟨[a, b], []⟩ = pure (ns.zip [a, b])) (hn : n = 2 := by rfl) : ∀ vs : List Value, vs.length = n → bindArgs fd ⟨vs, []⟩ = pure (ns.zip vs) := by
  subst hn; intro vs hv; obtain ⟨a, b, rfl⟩ := len2 hv; exact h a b
theorem hb3 {fd : FuncData} {ns : List Str} {n : Nat} (h : ∀ a b d, bindArgs fd ⟨[a, b, d], []⟩ = pure (ns.zip [a, b, d])) (hn : n = 3 := by rfl) : ∀ vs : List Value, vs.length = n → bindArgs fd ⟨vs, []⟩ = pure (ns.zip vs) := by
  subst hn; intro vs hv; obtain ⟨a, b, d, rfl⟩ := len3 hv; exact h a b d

section
variable {W : Wd} {c : Cx} {st : St}
theorem op_sub {x y : Int} {Q : AV → St → Prop} (h : Q (.int (x - y)) st) : Op2 W c VR st (.int x) (.int y) (binaryOp .Sub) Q := fun ρ s E v u r ⟨t, e⟩ ⟨t', e'⟩ => by
  subst e; subst e'; exact PySem.P.sub_int (Post.here h (r.toks _) ⟨_, rfl⟩)
theorem op_mul {x y : Int} {Q : AV → St → Prop} (hm : IntMulOk x y) (h : Q (.int (x * y)) st) : Op2 W c VR st (.int x) (.int y) (binaryOp .Mult) Q := fun ρ s E v u r ⟨t, e⟩ ⟨t', e'⟩ => by
  subst e; subst e'; exact PySem.P.mul_int (Post.here h (r.toks _) ⟨_, rfl⟩) hm
theorem op_shr {x y : Int} {Q : AV → St → Prop} (hn : 0 ≤ y) (h : Q (.int (x.fdiv (2 ^ y.toNat))) st) : Op2 W c VR st (.int x) (.int y) (binaryOp .RShift) Q := fun ρ s E v u r ⟨t, e⟩ ⟨t', e'⟩ => by
  subst e; subst e'; exact rshift_int hn (Post.here h (r.toks _) ⟨_, rfl⟩)
theorem op_neg {x : Int} {Q : AV → St → Prop} (h : Q (.int (-x)) st) : Op1 W c VR st (.int x) (unaryOp .USub) Q := fun ρ s E v r ⟨t, e⟩ => by
  subst e; exact PySem.P.neg_int (Post.here h (r.toks _) ⟨_, rfl⟩)
theorem op_lt {x y : Int} {Q : AV → St → Prop} (h : Q (.bool (decide (x < y))) st) : Op2 W c VR st (.int x) (.int y) (compareOp .Lt) Q := fun ρ s E v u r ⟨t, e⟩ ⟨t', e'⟩ => by
  subst e; subst e'; exact PySem.P.lt_int (Post.here h r rfl)
theorem op_le {x y : Int} {Q : AV → St → Prop} (h : Q (.bool (decide (x ≤ y))) st) : Op2 W c VR st (.int x) (.int y) (compareOp .LtE) Q := fun ρ s E v u r ⟨t, e⟩ ⟨t', e'⟩ => by
  subst e; subst e'; exact PySem.P.le_int (Post.here h r rfl)
theorem op_gt {x y : Int} {Q : AV → St → Prop} (h : Q (.bool (decide (x > y))) st) : Op2 W c VR st (.int x) (.int y) (compareOp .Gt) Q := fun ρ s E v u r ⟨t, e⟩ ⟨t', e'⟩ => by
  subst e; subst e'; exact PySem.P.gt_int (Post.here h r rfl)
theorem op_ge {x y : Int} {Q : AV → St → Prop} (h : Q (.bool (decide (x ≥ y))) st) : Op2 W c VR st (.int x) (.int y) (compareOp .GtE) Q := fun ρ s E v u r ⟨t, e⟩ ⟨t', e'⟩ => by
  subst e; subst e'; exact PySem.P.ge_int (Post.here h r rfl)
theorem op_eq {x y : Int} {Q : AV → St → Prop} (h : Q (.bool (decide (x = y))) st) : Op2 W c VR st (.int x) (.int y) (compareOp .Eq) Q := fun ρ s E v u r ⟨t, e⟩ ⟨t', e'⟩ => by
  subst e; subst e'; exact PySem.P.eq_int (Post.here h r rfl)
theorem op_ne {x y : Int} {Q : AV → St → Prop} (h : Q (.bool (!decide (x = y))) st) : Op2 W c VR st (.int x) (.int y) (compareOp .NotEq) Q := fun ρ s E v u r ⟨t, e⟩ ⟨t', e'⟩ => by
  subst e; subst e'; exact PySem.P.ne_int (Post.here h r (by show Value.bool _ = Value.bool _; rfl))
theorem str_beq (x y : Str) : (x.cps.toList == y.cps.toList) = decide (x = y) := by
  rw [Bool.eq_iff_iff, beq_iff_eq, decide_eq_true_eq, Array.toList_inj]
  exact ⟨fun h => Str.ext' h, fun h => by rw [h]⟩
theorem op_eqS {x y : Str} {Q : AV → St → Prop} (h : Q (.bool (decide (x = y))) st) : Op2 W c VR st (.str x) (.str y) (compareOp .Eq) Q := fun ρ s E v u r ⟨t, e⟩ ⟨t', e'⟩ => by
  subst e; subst e'; exact PySem.P.eq_str (Post.here h r (by rw [str_beq]; rfl))
theorem op_neS {x y : Str} {Q : AV → St → Prop} (h : Q (.bool (!decide (x = y))) st) : Op2 W c VR st (.str x) (.str y) (compareOp .NotEq) Q := fun ρ s E v u r ⟨t, e⟩ ⟨t', e'⟩ => by
  subst e; subst e'; exact PySem.P.ne_str (Post.here h r (by rw [bne, str_beq]; rfl))
theorem op_isNone {a : AV} {Q : AV → St → Prop} (h : Q (.bool (match a with | .none => true | _ => false)) st) (hf : ∀ v, a ≠ .fix v) : Op2 W c VR st a .none (compareOp .Is) Q := fun ρ s E v u r e e' => by
  cases (show u = .none from e')
  refine PyProof.Rows.is_none_gen (Post.here h r ?_)
  cases a with
  | none => cases (show v = .none from e); rfl
  | bool b => cases (show v = .bool b from e); rfl
  | int i => obtain ⟨t, e⟩ := e; subst e; rfl
  | str x => obtain ⟨t, e⟩ := e; subst e; rfl
  | obj k => obtain ⟨a, _, e⟩ := e; subst e; rfl
  | fix w => exact absurd rfl (hf w)

/-! lists -/
theorem op_getL {k : Nat} {l : List AV} {i : Int} {a : AV} {Q : AV → St → Prop} (hk : st.os[k]? = some (.list l)) (h0 : 0 ≤ i) (hi : i < 2 ^ 63) (ha : l[i.toNat]? = some a) (h : Q a st) :
    Op2 W c VR st (.obj k) (.int i) getItem Q := fun ρ s E v u r hv ⟨t, e⟩ => by
  obtain ⟨b, vs, n, e1, h1, h2, h3⟩ := r.list hk hv
  subst e1; subst e
  obtain ⟨x, hx, hr⟩ := h3.get ha
  exact wpAny_getItem_list ⟨_, h2, rfl, n, rfl⟩ h0 hi (by simpa using hx) (Post.here h r hr)
theorem op_getT {k : Nat} {l : List AV} {i : Int} {a : AV} {Q : AV → St → Prop} (hk : st.os[k]? = some (.tup l)) (h0 : 0 ≤ i) (hi : i < 2 ^ 63) (ha : l[i.toNat]? = some a) (h : Q a st) :
    Op2 W c VR st (.obj k) (.int i) getItem Q := fun ρ s E v u r hv ⟨t, e⟩ => by
  obtain ⟨b, vs, n, e1, h1, h2, h3⟩ := r.tup hk hv
  subst e1; subst e
  obtain ⟨x, hx, hr⟩ := h3.get ha
  have hl : i.toNat < vs.length := (List.getElem?_eq_some_iff.mp hx).1
  refine getItem_tuple (j := i.toNat) ⟨_, h2, rfl, n, rfl⟩ (by lsm_bools) hi ?_ (by simpa using hx) (Post.here h r hr)
  simp only [List.size_toArray]
  unfold seqIndex?
  have e : (if i < 0 then i + (vs.length : Int) else i) = i := by rw [if_neg (by lsm_bools)]
  simp only [e]
  rw [if_pos (by simp only [Bool.and_eq_true, decide_eq_true_eq]; lsm_bools)]
theorem op_setL {k : Nat} {l : List AV} {i : Int} {a : AV} {Q : Unit → St → Prop} (hk : st.os[k]? = some (.list l)) (h0 : 0 ≤ i) (hi : i < 2 ^ 63) (hl : i < l.length) (h : Q () { st with os := st.os.set k (.list (l.set i.toNat a)) }) :
    Op3 W c UR st (.obj k) (.int i) a setItem Q := fun ρ s E v u x r hv ⟨t, e⟩ hx => by
  obtain ⟨b, vs, n, e1, h1, h2, h3⟩ := r.list hk hv
  subst e1; subst e
  have hlen := h3.length
  refine ki_setAt h2 h0 hi (by simp; lsm_bools) (Post.here h (r.change h1 (Heap.SameBut.update ..) (ob' := PySem.W.listOf (List.toArray (vs.set i.toNat x)) n) ?_ ⟨_, n, rfl, h3.set hx⟩) trivial)
  have e := PySem.IsL.update (n := n) (items := vs.toArray) h2 (fun xs => xs.setIfInBounds i.toNat x)
  have hs : (vs.toArray.setIfInBounds i.toNat x) = (vs.set i.toNat x).toArray := by simp
  rw [hs] at e
  rw [e]
  simp
theorem call_append {k : Nat} {l : List AV} {a : AV} {Q : AV → St → Prop} (hk : st.os[k]? = some (.list l)) (hz : l.length ≤ 100000) (h : Q .none { st with os := st.os.set k (.list (l ++ [a])) }) :
    CallV W c st (.builtin "list.append") [.obj k, a] Q := fun ρ s E vs r hv => by
  obtain ⟨v, ws, e, hv1, u, ws', e', hu, e''⟩ := hv
  subst e; subst e'; subst e''
  obtain ⟨b, vs, n, e1, h1, h2, h3⟩ := r.list hk hv1
  subst e1
  have hlen := h3.length
  refine append_at h2 (fun h' hs hg => Post.here h (r.change h1 hs hg ⟨vs ++ [u], n + 1, by simp, h3.append ⟨u, [], rfl, hu, rfl⟩⟩) rfl) ?_
  have : sizeLine = 16777216 := rfl
  simp; lsm_bools
theorem call_pop {k : Nat} {l : List AV} {a : AV} {Q : AV → St → Prop} (hk : st.os[k]? = some (.list (l ++ [a]))) (hz : l.length ≤ 100000) (h : Q a { st with os := st.os.set k (.list l) }) :
    CallV W c st (.builtin "list.pop") [.obj k] Q := fun ρ s E vs r hv => by
  obtain ⟨v, ws, e, hv1, e'⟩ := hv
  subst e; subst e'
  obtain ⟨b, vs, n, e1, h1, h2, h3⟩ := r.list hk hv1
  subst e1
  have hlen := h3.length
  have hne : vs ≠ [] := by intro e; subst e; simp at hlen
  obtain ⟨p, y, rfl⟩ : ∃ p y, vs = p ++ [y] := ⟨vs.dropLast, vs.getLast hne, (List.dropLast_concat_getLast hne).symm⟩
  have hp : VRel ρ l p ∧ a.rel ρ y := by
    have hl : p.length = l.length := by simpa using hlen
    have t1 := h3.take l.length
    rw [List.take_left, ← hl, List.take_left] at t1
    have t2 := h3.get (i := l.length) (a := a) (by simp)
    rw [← hl] at t2
    obtain ⟨y', hy, hr⟩ := t2
    simp at hy; subst hy
    exact ⟨t1, hr⟩
  have hsz : (p ++ [y]).toArray.size ≤ sizeLine := by
    have : sizeLine = 16777216 := rfl
    have hl : p.length = l.length := by simpa using hlen
    simp; lsm_bools
  refine call_meets PySem.F.slot_list_pop ⟨_, h2, rfl⟩ PySem.F.entry_list_pop (PySem.F.args_list_pop_1 _) (PySem.MeetsSeq.list_pop_last b _ n y (by simp) hsz) ⟨h2, ?_⟩
  refine Post.here h (r.change h1 (Heap.SameBut.update ..) (ob' := PySem.W.listOf (List.toArray p) (n + 1)) ?_ ⟨p, n + 1, rfl, hp.1⟩) hp.2
  have e := PySem.IsL.update (n := n) (items := (p ++ [y]).toArray) h2 (fun xs => xs.eraseIdxIfInBounds ((p ++ [y]).toArray.size - 1))
  have he : ((p ++ [y]).toArray.eraseIdxIfInBounds ((p ++ [y]).toArray.size - 1)) = p.toArray := by
    have hk : (p ++ [y]).toArray.size - 1 = p.length := by simp
    rw [hk, kl_erase, List.append_nil]
  rw [he] at e
  rw [e]
  simp
theorem call_lenL {k : Nat} {l : List AV} {Q : AV → St → Prop} (hk : st.os[k]? = some (.list l)) (hz : l.length ≤ 100000) (h : Q (.int l.length) st) :
    CallV W c st (.builtin "len") [.obj k] Q := fun ρ s E vs r hv => by
  obtain ⟨v, ws, e, hv1, e'⟩ := hv
  subst e; subst e'
  obtain ⟨b, vs, n, e1, h1, h2, h3⟩ := r.list hk hv1
  subst e1
  have hlen := h3.length
  refine call_len_list ⟨_, h2, rfl, n, rfl⟩ (by simp; lsm_bools) (Post.here h (r.toks _) ⟨_, by simp [hlen]; rfl⟩)
theorem tr_list {k : Nat} {l : List AV} {Q : Bool → St → Prop} (hk : st.os[k]? = some (.list l)) (hz : l.length ≤ 100000) (h : Q (!l.isEmpty) st) : Op1 W c BR st (.obj k) truthy Q := fun ρ s E v r hv => by
  obtain ⟨b, vs, n, e1, h1, h2, h3⟩ := r.list hk hv
  subst e1
  have hlen := h3.length
  refine wpAny_truthy_list ⟨_, h2, rfl, n, rfl⟩ (by simp; lsm_bools) (Post.here h (r.toks _) ?_)
  show (!l.isEmpty) = _
  cases l <;> cases vs <;> simp_all
theorem tr_bool {b : Bool} {Q : Bool → St → Prop} (h : Q b st) : Op1 W c BR st (.bool b) truthy Q := fun ρ s E v r hv => by
  cases (show v = .bool b from hv); exact wpAny_truthy_bool (Post.here h r rfl)
theorem tr_none {Q : Bool → St → Prop} (h : Q false st) : Op1 W c BR st .none truthy Q := fun ρ s E v r hv => by
  cases (show v = .none from hv); exact PyProof.Rows.truthy_none (Post.here h r rfl)
theorem tr_int {i : Int} {Q : Bool → St → Prop} (h : Q (decide (i ≠ 0)) st) : Op1 W c BR st (.int i) truthy Q := fun ρ s E v r ⟨t, e⟩ => by
  subst e; exact PySem.P.truthy_int (Post.here h r (by show decide (i ≠ 0) = (i != 0); by_cases h : i = 0 <;> simp [h]))
theorem tr_str {x : Str} {Q : Bool → St → Prop} (hz : x.length ≤ 1000000) (h : Q (decide (x.length ≠ 0)) st) : Op1 W c BR st (.str x) truthy Q := fun ρ s E v r ⟨t, e⟩ => by
  subst e; exact PySem.P.truthy_str (by lsm_bools) (Post.here h (r.toks _) (by show decide (x.length ≠ 0) = ((x.length : Int) != 0); by_cases h : x.length = 0 <;> simp [h]))

/-! subscripts, statements -/
theorem ev_Sub {value slice : Expr} {pos : Pos} {Q : AV → St → Prop} (h : Ev W c st (eval value c.env) (fun a st1 => Ev W c st1 (eval slice c.env) (fun b st2 => Op2 W c VR st2 a b (subscriptTail value slice) Q))) :
    Ev W c st (eval (.Subscript value slice pos) c.env) Q := fun ρ s E rp => Subscript_ (wp_on h rp fun ρ' a st1 v s1 r1 ra h1 => wp_on h1 r1 fun ρ2 b st2 u s2 r2 rb h2 => by
      rw [List.append_assoc] at r2 rb
      exact wp_go2 h2 r2 (by rw [← List.append_assoc]; exact AV.rel.mono ra) rb)
theorem sub_list {value slice : Expr} {k : Nat} {l : List AV} {i : Int} {a : AV} {Q : AV → St → Prop} (hk : st.os[k]? = some (.list l)) (hs : ∀ b t, subscripted slice false (.ref b) (.int i t) = operate [.ref b, .int i t] (getItem (.ref b) (.int i t)))
    (h0 : 0 ≤ i) (hi : i < 2 ^ 63) (ha : l[i.toNat]? = some a) (h : Q a st) : Op2 W c VR st (.obj k) (.int i) (subscriptTail value slice) Q := fun ρ s E v u r hv ⟨t, e⟩ => by
  obtain ⟨b, vs, n, e1, h1, h2, h3⟩ := r.list hk hv
  subst e1; subst e
  obtain ⟨x, hx, hr⟩ := h3.get ha
  have hL : s.heap.IsList b (List.toArray vs) := ⟨_, h2, rfl, n, rfl⟩
  exact tail_any hL.typeIs slot_list_getitem.lookup (wpAny_getItem_list hL h0 hi (by simpa using hx) (Post.here h r hr)) (hs _ _)
theorem sub_tup {value slice : Expr} {k : Nat} {l : List AV} {i : Int} {a : AV} {Q : AV → St → Prop} (hk : st.os[k]? = some (.tup l)) (hs : ∀ b t, subscripted slice false (.ref b) (.int i t) = operate [.ref b, .int i t] (getItem (.ref b) (.int i t)))
    (h0 : 0 ≤ i) (hi : i < 2 ^ 63) (ha : l[i.toNat]? = some a) (h : Q a st) : Op2 W c VR st (.obj k) (.int i) (subscriptTail value slice) Q := fun ρ s E v u r hv ⟨t, e⟩ => by
  obtain ⟨b, vs, n, e1, h1, h2, h3⟩ := r.tup hk hv
  subst e1; subst e
  have hT : IsTup s.heap b (List.toArray vs) := ⟨_, h2, rfl, n, rfl⟩
  exact tail_any hT.typeIs slot_tuple_getitem.lookup (op_getT (Q := Q) hk h0 hi ha h ρ s E _ _ r hv ⟨t, rfl⟩) (hs _ _)
theorem ex_Expr {e : Expr} {pos : Pos} {Q : AF → St → Prop} (hs : swapsWith e none pos.line c.env = pure false) (h : Ev W c st (eval e c.env) (fun _ st1 => Q .next st1)) :
    Ex W c st (exec (.Expr e pos) c.env) Q := fun ρ s E r => wpAny_Expr_any (wp_on h r fun ρ' a st1 v s1 r1 ra h1 => Post.on h1 r1 rfl) (by
      show (c.scope.kind == .module && _) = false
      rw [r.ok.kind]; rfl) hs
theorem ex_AssignS {o i value : Expr} {pos' pos : Pos} {Q : AF → St → Prop} (hs : swapsWith value (some (.Subscript o i pos')) pos.line c.env = pure false)
    (h : Ev W c st (eval value c.env) (fun a st1 => Ev W c st1 (eval o c.env) (fun b st2 => Ev W c st2 (eval i c.env) (fun d st3 => Op3 W c UR st3 b d a setItem (fun _ st4 => Q .next st4))))) :
    Ex W c st (exec (.Assign [.Subscript o i pos'] value pos) c.env) Q := fun ρ s E r =>
  wpAny_Assign_Subscript (wp_on h r fun ρ1 a st1 v s1 r1 ra h1 => wp_on h1 r1 fun ρ2 b st2 u s2 r2 rb h2 => wp_on h2 r2 fun ρ3 d st3 x s3 r3 rd h3 => by
    have ra' : a.rel ((ρ ++ ρ1 ++ ρ2) ++ ρ3) v := ra.mono.mono
    refine wpAny_mono (h3 _ s3 E u x v r3 rb.mono rd ra') (fun _ s4 p => ?_) fun _ _ x => x
    obtain ⟨ρ4, _, st4, r4, _, hq⟩ := p
    have : Post W c AF.rel (ρ ++ ρ1 ++ ρ2 ++ ρ3) Q .next s4 := Post.on hq r4 rfl
    exact Post.ext (Post.ext (Post.ext this))) hs
theorem ex_AugN {x : Str} {op : Operator} {value : Expr} {pos' pos : Pos} {a0 : AV} {Q : AF → St → Prop} (hk : c.scope.names.lookup x = some .local) (hv : st.m.lookup x = some a0)
    (h : Ev W c st (eval value c.env) (fun b st1 => Op2 W c VR st1 a0 b (inplaceOp op) (fun d st2 => Q .next { st2 with m := putM x d st2.m }))) :
    Ex W c st (exec (.AugAssign (.Name x pos') op value pos) c.env) Q := fun ρ s E r => by
  obtain ⟨M, hn, hl⟩ := r.ns
  obtain ⟨v, h1, h2⟩ := hl x a0 hv
  refine wpAny_AugAssign_Name (wpAny_loadName_local (env := c.env) r.ok.kind hk hn h1 (wp_on h r fun ρ1 b st1 u s1 r1 rb h3 => wpAny_mono (h3 _ s1 E v u r1 h2.mono rb) (fun d s2 p => ?_) fun _ _ x => x))
  obtain ⟨ρ2, d', st2, r2, rd, hq⟩ := p
  exact wp_storeLocal r2 rd hk fun s' r' => Post.ext (Post.on hq r' rfl)

/-- behind a turn of a loop -/
noncomputable abbrev WhQ (n : Nat) (I : Nat → St → Prop) (Q : AF → St → Prop) (f : AF) (st2 : St) : Prop := match f with | .next | .cont => ∃ m, m < n ∧ I m st2 | .brk => Q .next st2 | .ret v => Q (.ret v) st2
inductive LoI (W : Wd) (c : Cx) (ρ0 : List Addr) (I : Nat → St → Prop) (n : Nat) (s' : Shared) : Prop
  | mk (ρ' : List Addr) (st' : St) (h1 : Rp W c (ρ0 ++ ρ') st' s') (h2 : I n st')
theorem ex_While {test : Expr} {body orelse : List Stmt} {pos : Pos} {Q : AF → St → Prop} (I : Nat → St → Prop) (n : Nat) (h0 : I n st)
    (turn : ∀ n st, I n st → Tt W c st (isTrue test c.env (eval test c.env)) (fun b st1 =>
      (b = true → Ex W c st1 (execs body c.env) (WhQ n I Q)) ∧
      (b = false → Ex W c st1 (execs orelse c.env) Q))) :
    Ex W c st (exec (.While test body orelse pos) c.env) Q := fun ρ s E r => by
  refine wpAny_While ?_
  refine codeAny_whileLoop (LoI W c ρ I) (fun n s' ⟨ρ', st', r', hI⟩ => ?_) n ⟨[], st, by rw [List.append_nil]; exact r, h0⟩
  refine wp_on (turn n st' hI) r' fun ρ1 b st1 v s1 r1 ra h1 => ?_
  cases ra
  cases b with
  | true =>
    refine wp_on (h1.1 rfl) r1 fun ρ2 f st2 fl s2 r2 rf h2 => ?_
    rw [List.append_assoc, List.append_assoc] at r2
    rw [List.append_assoc, List.append_assoc] at rf
    cases f with
    | next => cases rf; obtain ⟨m, hm, hI'⟩ := h2; exact ⟨m, hm, _, st2, r2, hI'⟩
    | cont => cases rf; obtain ⟨m, hm, hI'⟩ := h2; exact ⟨m, hm, _, st2, r2, hI'⟩
    | brk => cases rf; exact Post.on h2 r2 rfl
    | ret a => obtain ⟨u, e, hu⟩ := rf; subst e; exact Post.on h2 r2 ⟨u, rfl, hu⟩
  | false => exact wpAny_mono (wp_go (ρ := ρ ++ ρ') (h1.2 rfl) r1) (fun _ _ p => Post.ext p) fun _ _ x => x
end
-- VT
section
variable {prog : Program} {w : World} {A : Around} {E : Value → Shared → Prop} {s : Shared}
noncomputable def ltK (d1 : Int) (p1 : Str) (d2 : Int) (p2 : Str) : Bool := decide (d1 < d2) || (decide (d1 = d2) && decide (p1.cps.toList < p2.cps.toList))
theorem tuple_lt2 {a b : Addr} {d1 d2 : Int} {p1 p2 : Str} {t1 t2 u1 u2 : Tok} {n m : Nat} {P : PySem.Fin → Shared → Prop}
    (hx : s.heap.get? a = some { cls := .type "tuple", data := .seq #[.int d1 t1, .str p1 u1] n }) (hy : s.heap.get? b = some { cls := .type "tuple", data := .seq #[.int d2 t2, .str p2 u2] m })
    (h : P (.done (.ret (.bool (ltK d1 p1 d2 p2)))) s) : wpAny (model prog w) A (Builtin.«tuple.__lt__» ⟨[.ref a, .ref b], []⟩) P E s := by
  have hTb : s.TypeIs (.ref b) "tuple" := ⟨_, hy, rfl⟩
  show wpAny _ _ (isInstance (.ref b) (.type "tuple") >>= _) _ _ s
  refine wpAny_bind (wpAny_isInstance hTb isSubtype_tuple_tuple ?_)
  simp only [Bool.not_true, Bool.false_eq_true, if_false]
  refine wpAny_bind (wpAny_tupleItemsOf hx rfl ?_)
  refine wpAny_bind (wpAny_tupleItemsOf hy rfl ?_)
  show wpAny _ _ (forIn [(Value.int d1 t1, Value.int d2 t2), (Value.str p1 u1, Value.str p2 u2)] _ _ >>= _) _ _ s
  rw [List.forIn_cons]
  unfold ltK at h
  refine wpAny_bind (wpAny_bind (wpAny_bind (wpAny_eqBool_int ?_)))
  by_cases hd : d1 = d2
  · subst hd
    simp only [beq_self_eq_true, Bool.not_true, Bool.false_eq_true, if_false]
    refine wpAny_pure ?_
    dsimp only
    rw [List.forIn_cons]
    refine wpAny_bind (wpAny_bind (wpAny_eqBool_str ?_))
    by_cases hp : p1 = p2
    · subst hp
      simp only [decide_true, Bool.not_true, Bool.false_eq_true, if_false]
      refine wpAny_pure ?_
      dsimp only
      rw [List.forIn_nil]
      refine wpAny_pure ?_
      have e : (decide (d1 < d1) || (decide (d1 = d1) && decide (p1.cps.toList < p1.cps.toList))) = false := by simp [List.lt_irrefl]
      rw [e] at h
      exact wpAny_pure h
    · simp only [hp, decide_false, Bool.not_false, if_true]
      refine wpAny_bind (wpAny_rule (wpAny_bind (PySem.P.lt_str (A := A) (by
        refine wpAny_pure (wpAny_pure (wpAny_pure ?_))
        have e : (decide (d1 < d1) || (decide (d1 = d1) && decide (p1.cps.toList < p2.cps.toList))) = decide (p1.cps.toList < p2.cps.toList) := by simp
        rw [e] at h
        exact h))))
  · have e : (d1 == d2) = false := by simpa using hd
    simp only [e, Bool.not_false, if_true]
    refine wpAny_bind (wpAny_rule (wpAny_bind (PySem.P.lt_int (A := A) (by
      refine wpAny_pure (wpAny_pure (wpAny_pure ?_))
      have e : (decide (d1 < d2) || (decide (d1 = d2) && decide (p1.cps.toList < p2.cps.toList))) = decide (d1 < d2) := by simp [hd]
      rw [e] at h
      exact h))))
theorem cmp_lt2 {a b : Addr} {d1 d2 : Int} {p1 p2 : Str} {t1 t2 u1 u2 : Tok} {n m : Nat} {Q : Value → Shared → Prop} (hu : A.units < cLine)
    (hx : s.heap.get? a = some { cls := .type "tuple", data := .seq #[.int d1 t1, .str p1 u1] n }) (hy : s.heap.get? b = some { cls := .type "tuple", data := .seq #[.int d2 t2, .str p2 u2] m })
    (h : Q (.bool (ltK d1 p1 d2 p2)) s) : wpAny (model prog w) A (compareOp .Lt (.ref a) (.ref b)) Q E s :=
  cmp_ofLt (wpAny_richCompare_same_room (op := .Lt) (T := "tuple") ⟨_, hx, rfl⟩ ⟨_, hy, rfl⟩ PySem.F.slot_tuple_lt
    (wpAny_call_entry PySem.F.slot_tuple_lt (T := "tuple") ⟨_, hx, rfl⟩ PySem.F.entry_tuple_lt (tuple_lt2 hx hy ⟨_, rfl, (fun e => nomatch e), h⟩) (PySem.F.args_tuple_lt_2 _ _)) hu)
end
section
variable {W : Wd} {c : Cx} {st : St}
theorem op_ltT {i j : Nat} {d1 d2 : Int} {p1 p2 : Str} {Q : AV → St → Prop} (hi : st.os[i]? = some (.tup [.int d1, .str p1])) (hj : st.os[j]? = some (.tup [.int d2, .str p2])) (h : Q (.bool (ltK d1 p1 d2 p2)) st) :
    Op2 W c VR st (.obj i) (.obj j) (compareOp .Lt) Q := fun ρ s E v u r hv hu => by
  obtain ⟨a, vs, n, e1, h1, h2, h3⟩ := r.tup hi hv
  obtain ⟨b, us, m, e2, g1, g2, g3⟩ := r.tup hj hu
  obtain ⟨_, _, rfl, ⟨t1, rfl⟩, _, _, rfl, ⟨u1, rfl⟩, rfl⟩ := h3
  obtain ⟨_, _, rfl, ⟨t2, rfl⟩, _, _, rfl, ⟨u2, rfl⟩, rfl⟩ := g3
  subst e1; subst e2
  exact cmp_lt2 (by have := r.ok.un; lsm_bools) h2 g2 (Post.here h r rfl)
end
-- HP
section
variable {α : Type} (k : α → Int)
noncomputable def KK (l : List α) (i : Nat) : Int := (l[i]?.map k).getD 0
theorem KK_set (l : List α) (p i : Nat) (x : α) (hp : p < l.length) : KK k (l.set p x) i = if i = p then k x else KK k l i := by
  unfold KK
  by_cases h : i = p
  · subst h; simp [hp]
  · rw [List.getElem?_set_ne (fun e => h e.symm)]; simp [h]
theorem KK_get {l : List α} {i : Nat} {a : α} (h : l[i]? = some a) : KK k l i = k a := by simp [KK, h]
noncomputable def HPr (l : List α) : Prop := ∀ i, 0 < i → i < l.length → KK k l ((i - 1) / 2) ≤ KK k l i
noncomputable def SD (l : List α) (p : Nat) (x : α) : Prop := p < l.length ∧ (∀ i, 0 < i → i < l.length → i ≠ p → KK k (l.set p x) ((i - 1) / 2) ≤ KK k (l.set p x) i) ∧
  (0 < p → ∀ i, 0 < i → i < l.length → (i - 1) / 2 = p → KK k (l.set p x) ((p - 1) / 2) ≤ KK k (l.set p x) i)
noncomputable def SU (l : List α) (p : Nat) : Prop := p < l.length ∧ (∀ i, 0 < i → i < l.length → i ≠ p → (i - 1) / 2 ≠ p → KK k l ((i - 1) / 2) ≤ KK k l i) ∧
  (0 < p → ∀ i, 0 < i → i < l.length → (i - 1) / 2 = p → KK k l ((p - 1) / 2) ≤ KK k l i)

theorem HPr.min {l : List α} (h : HPr k l) : ∀ i, i < l.length → KK k l 0 ≤ KK k l i := by
  intro i
  induction i using Nat.strongRecOn with
  | ind i ih =>
    intro hi
    by_cases h0 : i = 0
    · subst h0; exact Int.le_refl _
    · exact Int.le_trans (ih ((i - 1) / 2) (by lia) (by lia)) (h i (by lia) hi)

theorem SD.step {l : List α} {p : Nat} {x y : α} (h : SD k l p x) (hp : 0 < p) (hy : l[(p - 1) / 2]? = some y) (hxy : k x ≤ k y) : SD k (l.set p y) ((p - 1) / 2) x := by
  obtain ⟨hl, hA, hB⟩ := h
  have hql : (p - 1) / 2 < (l.set p y).length := by rw [List.length_set]; lia
  have hq : KK k l ((p - 1) / 2) = k y := KK_get k hy
  have e1 : ∀ i, KK k ((l.set p y).set ((p - 1) / 2) x) i = if i = (p - 1) / 2 then k x else if i = p then k y else KK k l i := by
    intro i; rw [KK_set k _ _ _ _ hql, KK_set k _ _ _ _ hl]
  have e0 : ∀ i, KK k (l.set p x) i = if i = p then k x else KK k l i := fun i => KK_set k _ _ _ _ hl
  simp only [e0] at hA hB
  refine ⟨hql, ?_, ?_⟩
  · intro i hi hil hiq
    rw [List.length_set] at hil
    simp only [e1]
    rw [if_neg hiq]
    by_cases hip : i = p
    · subst hip
      simp only [if_true]; exact hxy
    · rw [if_neg hip]
      have a := hA i hi hil hip
      rw [if_neg hip] at a
      by_cases hjq : (i - 1) / 2 = (p - 1) / 2
      · rw [if_pos hjq]
        rw [hjq, if_neg (by lia), hq] at a
        lia
      · rw [if_neg hjq]
        by_cases hjp : (i - 1) / 2 = p
        · rw [if_pos hjp]
          have b := hB hp i hi hil hjp
          rw [if_neg (by lia), if_neg hip, hq] at b
          exact b
        · rw [if_neg hjp]
          rw [if_neg hjp] at a
          exact a
  · intro hq0 i hi hil hji
    rw [List.length_set] at hil
    simp only [e1]
    have r1 : ((p - 1) / 2 - 1) / 2 ≠ (p - 1) / 2 := by lia
    have r2 : ((p - 1) / 2 - 1) / 2 ≠ p := by lia
    rw [if_neg r1, if_neg r2]
    have a := hA ((p - 1) / 2) (by lia) (by lia) (by lia)
    rw [if_neg r2, if_neg (by lia), hq] at a
    rw [if_neg (by lia)]
    by_cases hip : i = p
    · rw [if_pos hip]; exact a
    · rw [if_neg hip]
      have b := hA i hi hil hip
      rw [if_neg hip, hji, if_neg (by lia), hq] at b
      lia

theorem SD.stop {l : List α} {p : Nat} {x : α} (h : SD k l p x) (hs : p = 0 ∨ ∃ y, l[(p - 1) / 2]? = some y ∧ k y ≤ k x) : HPr k (l.set p x) := by
  obtain ⟨hl, hA, hB⟩ := h
  intro i hi hil
  rw [List.length_set] at hil
  by_cases hip : i = p
  · subst hip
    rcases hs with h0 | ⟨y, hy, hxy⟩
    · lia
    · rw [KK_set k _ _ _ _ hl, KK_set k _ _ _ _ hl, if_neg (by lia), if_pos rfl, KK_get k hy]
      exact hxy
  · exact hA i hi hil hip

theorem SD.push {l : List α} {x : α} (h : HPr k l) : SD k (l ++ [x]) l.length x := by
  have e : (l ++ [x]).set l.length x = l ++ [x] := by simp
  have eK : ∀ i, i < l.length → KK k (l ++ [x]) i = KK k l i := by
    intro i hi; unfold KK; rw [List.getElem?_append_left hi]
  refine ⟨by simp, ?_, ?_⟩
  · intro i hi hil hne
    simp at hil
    rw [e, eK _ (by lia), eK _ (by lia)]
    exact h i hi (by lia)
  · intro hp i hi hil hj
    simp at hil; lia

theorem SU.start {l : List α} {x : α} (h : HPr k l) (hl : 0 < l.length) : SU k (l.set 0 x) 0 := by
  have e : ∀ i, KK k (l.set 0 x) i = if i = 0 then k x else KK k l i := fun i => KK_set k _ _ _ _ hl
  refine ⟨by simpa using hl, ?_, fun h0 => absurd h0 (Nat.lt_irrefl _)⟩
  intro i hi hil h0 hj
  rw [List.length_set] at hil
  rw [e, e, if_neg hj, if_neg h0]
  exact h i hi hil

theorem SU.step {l : List α} {p c : Nat} {y : α} (h : SU k l p) (hc : c = 2 * p + 1 ∨ c = 2 * p + 2) (hcl : c < l.length) (hy : l[c]? = some y)
    (hmin : ∀ i, i < l.length → (i - 1) / 2 = p → 0 < i → k y ≤ KK k l i) : SU k (l.set p y) c := by
  obtain ⟨hl, hA, hB⟩ := h
  have e : ∀ i, KK k (l.set p y) i = if i = p then k y else KK k l i := fun i => KK_set k _ _ _ _ hl
  have hyc : KK k l c = k y := KK_get k hy
  refine ⟨by rw [List.length_set]; exact hcl, ?_, ?_⟩
  · intro i hi hil hic hjc
    rw [List.length_set] at hil
    simp only [e]
    by_cases hip : i = p
    · subst hip
      rw [if_neg (by lia), if_pos rfl, ← hyc]
      exact hB hi c (by lia) hcl (by lia)
    · rw [if_neg hip]
      by_cases hjp : (i - 1) / 2 = p
      · rw [if_pos hjp]; exact hmin i hil hjp hi
      · rw [if_neg hjp]; exact hA i hi hil hip hjp
  · intro hc0 i hi hil hj
    rw [List.length_set] at hil
    simp only [e]
    have hcp : (c - 1) / 2 = p := by lia
    rw [if_pos hcp, if_neg (by lia), ← hyc]
    have := hA i hi hil (by lia) (by lia)
    rw [hj] at this
    exact this

theorem SU.leaf {l : List α} {p : Nat} {x : α} (h : SU k l p) (hp : l.length ≤ 2 * p + 1) : SD k l p x := by
  obtain ⟨hl, hA, hB⟩ := h
  have e : ∀ i, KK k (l.set p x) i = if i = p then k x else KK k l i := fun i => KK_set k _ _ _ _ hl
  refine ⟨hl, ?_, ?_⟩
  · intro i hi hil hip
    simp only [e]
    rw [if_neg hip, if_neg (by lia)]
    exact hA i hi hil hip (by lia)
  · intro hp0 i hi hil hj
    lia
end

theorem swap_perm {α : Type} {l : List α} {i j : Nat} {x y : α} (hi : i < l.length) (hj : j < l.length) (hij : i ≠ j) (hy : l[j]? = some y) : ((l.set i y).set j x).Perm (l.set i x) := by
  have hy' : l[j] = y := by simpa [hj] using hy
  have h := List.set_set_perm (as := l.set i x) (i := i) (j := j) (by simpa using hi) (by simpa using hj)
  simp only [List.getElem_set_self, List.set_set] at h
  rw [List.getElem_set_ne hij] at h
  rw [hy'] at h
  exact h
-- VM
noncomputable abbrev WW (w : World) : Wd := { prog := PySem.Challenge.rw_in0134_01.row.prog, w := w, K := Mine.K39 w.params }

theorem lookup_same {x : Str} {a : AV} {m : List (Str × AV)} : (putM x a m).lookup x = some a := by rw [lookup_putM, if_pos rfl]
theorem lookup_ne {x y : Str} {a : AV} {m : List (Str × AV)} {v : Option AV} (h : (y == x) = false) (e : m.lookup y = v) : (putM x a m).lookup y = v := by
  rw [lookup_putM, if_neg (by simpa using h)]; exact e
theorem set_get {os : List AO} {k : Nat} {o o' : AO} (h : os[k]? = some o) : (os.set k o')[k]? = some o' := by
  have := (List.getElem?_eq_some_iff.mp h).1
  rw [List.getElem?_set_self this]
theorem set_get_ne {os : List AO} {j k : Nat} {o o' : AO} (h : os[j]? = some o) (e : k ≠ j) : (os.set k o')[j]? = some o := by
  rw [List.getElem?_set_ne e]; exact h
theorem set_self {os : List AO} {k : Nat} {o : AO} (h : os[k]? = some o) : os.set k o = os := by
  obtain ⟨hl, e⟩ := List.getElem?_eq_some_iff.mp h
  rw [← e]; exact List.set_getElem_self hl
theorem ex_bool {b : Bool} {P : Bool → Prop} (h : P b) : ∃ q, AV.bool b = AV.bool q ∧ P q := ⟨b, rfl, h⟩
theorem br_tt {X Y : Prop} (h : X) : (true = true → X) ∧ (true = false → Y) := ⟨fun _ => h, nofun⟩
theorem br_ff {X Y : Prop} (h : Y) : (false = true → X) ∧ (false = false → Y) := ⟨nofun, fun _ => h⟩
theorem br_tt' {X Y : Prop} (h : Y) : (true = false → X) ∧ (true = true → Y) := ⟨nofun, fun _ => h⟩
theorem br_ff' {X Y : Prop} (h : X) : (false = false → X) ∧ (false = true → Y) := ⟨fun _ => h, nofun⟩
theorem br_true {b : Bool} {X Y : Prop} (e : b = true) (h : X) : (b = true → X) ∧ (b = false → Y) := ⟨fun _ => h, fun q => by rw [e] at q; cases q⟩
theorem br_false {b : Bool} {X Y : Prop} (e : b = false) (h : Y) : (b = true → X) ∧ (b = false → Y) := ⟨fun q => by rw [e] at q; (cases q), fun _ => h⟩
theorem br_false' {b : Bool} {X Y : Prop} (e : b = false) (h : X) : (b = false → X) ∧ (b = true → Y) := ⟨fun _ => h, fun q => by rw [e] at q; cases q⟩
theorem br_true' {b : Bool} {X Y : Prop} (e : b = true) (h : Y) : (b = false → X) ∧ (b = true → Y) := ⟨fun q => by rw [e] at q; (cases q), fun _ => h⟩
/-- a statement by what holds behind it -/
noncomputable abbrev JQ (J : St → Prop) (f : AF) (st1 : St) : Prop := f = .next ∧ J st1
theorem ex_seq {W : Wd} {c : Cx} {st : St} {x : Stmt} {rest : List Stmt} {env : Env} {Q : AF → St → Prop} (J : St → Prop) (h1 : Ex W c st (exec x env) (JQ J)) (h2 : ∀ st1, J st1 → Ex W c st1 (execs rest env) Q) : Ex W c st (execs (x :: rest) env) Q :=
  ex_cons0 (EvK.mono h1 fun f st1 ⟨e, j⟩ => ⟨fun _ => h2 st1 j, fun n => absurd e n⟩)
theorem ex_J {W : Wd} {c : Cx} {st : St} {x : Stmt} {env : Env} {Q : AF → St → Prop} (J : St → Prop) (h1 : Ex W c st (exec x env) (JQ J)) (h2 : ∀ st1, J st1 → Q .next st1) : Ex W c st (exec x env) Q :=
  EvK.mono h1 fun f st1 ⟨e, j⟩ => by subst e; exact h2 st1 j
theorem op_setN {W : Wd} {c : Cx} {st : St} {k n : Nat} {l : List AV} {a : AV} {Q : Unit → St → Prop} (hk : st.os[k]? = some (.list l)) (hl : n < l.length) (hz : l.length ≤ 100000) (h : Q () { st with os := st.os.set k (.list (l.set n a)) }) :
    Op3 W c UR st (.obj k) (.int (n : Int)) a setItem Q := op_setL hk (by lsm_bools) (by lsm_bools) (by lsm_bools) (by rw [Int.toNat_natCast]; exact h)
theorem sub_listN {W : Wd} {c : Cx} {st : St} {value slice : Expr} {k n : Nat} {l : List AV} {a : AV} {Q : AV → St → Prop} (hk : st.os[k]? = some (.list l)) (hs : ∀ b t, subscripted slice false (.ref b) (.int (n : Int) t) = operate [.ref b, .int (n : Int) t] (getItem (.ref b) (.int (n : Int) t)))
    (hz : n ≤ 100000) (ha : l[n]? = some a) (h : Q a st) : Op2 W c VR st (.obj k) (.int (n : Int)) (subscriptTail value slice) Q := sub_list hk hs (by lsm_bools) (by lsm_bools) (by rw [Int.toNat_natCast]; exact ha) h
theorem set_nochange {α : Type} {l : List α} {i : Nat} {x : α} (h : l[i]? = some x) : l.set i x = l := by
  obtain ⟨hl, e⟩ := List.getElem?_eq_some_iff.mp h
  rw [← e]; exact List.set_getElem_self hl
theorem call_kc {W : Wd} {c : Cx} {st : St} {args : List Expr} {pos : Pos} {f : Value} {Q : AV → St → Prop} (hk : KeepOk W f) (h : Evs W c st (spliced (backTo pos (starEach args c.env))) (fun as st2 => CallV W c st2 f as Q)) : CaQ W c args pos Q (.fix f) st := ⟨f, rfl, hk, h⟩
theorem call_k {W : Wd} {f : Value} {P : Value → Prop} (hk : KeepOk W f) (h : P f) : ∃ g, AV.fix f = .fix g ∧ KeepOk W g ∧ P g := ⟨f, rfl, hk, h⟩
local macro_rules | `(tactic| kct_strs) => `(tactic| first | with_reducible assumption | with_reducible exact lookup_same | (((with_reducible refine' lookup_ne ?h1 ?_); (case h1 => exact rfl)); kct_strs) | exact rfl)
/-- steps by the kind of what is to be shown -/
def side1 : Char → Lean.MacroM (Lean.TSyntax `tactic)
  | 'L' => `(tactic| kct_strs)
  | 'K' => `(tactic| (first | with_reducible assumption | ((rename Cx.scope _ = _ => hsc); rw [hsc]; exact rfl)))
  | 'C' => `(tactic| ((rename Cx.cl _ = _ => hcl); rw [hcl]; exact rfl))
  | 'I' => `(tactic| (((try dsimp only [WW]); k_is)))
  | 'B' => `(tactic| first | boot_by_name | boot_fast)
  | 'P' => `(tactic| (first | exact keep_B | exact keep_T | exact keep_K (by (((try dsimp only [WW]); k_is)))))
  | 'O' => `(tactic| lsm_bools)
  | 'Z' => `(tactic| ((repeat refine putM_le ?_); first | decide | exact Nat.le_of_ble_eq_true rfl))
  | c => side0 c
/-- where this is to be shown -/
def onShow (e : Lean.Term) (t : Lean.TSyntax `tactic) : Lean.MacroM (Lean.TSyntax `tactic) := `(tactic| ((with_reducible show $e); $t:tactic))
def rows1 (rows : String) : Lean.MacroM (Lean.TSyntax `tactic) := rowsOf side1 rows
local macro_rules | `(tactic| kat_tups) => do
  let a ← rows1 "ev_local LKR,ev_global IKR,ev_builtin IBDKR,ev_int,ev_str,ev_bool,ev_none,ev_BinOp,ev_UnaryOp,ev_IfExp,ev_Sub,ev_Call r,~ev_CallM rr,ev_Compare U"
  return a
local macro_rules | `(tactic| keq_hits) => rows1 "ex_Assign rK,ex_nil,ex_Return,ex_Break,ex_Continue,ex_Expr r,ex_AssignS r,ex_AugN KL"
local macro_rules | `(tactic| kp_flats) => rows1 "tt_Compare U,tt_Not,tt_And,tt_And0,tt_Or,tt_Or0"
local macro_rules | `(tactic| leaf_len) => rows1 "br_tt,br_ff,br_tt',br_ff'"
local macro_rules | `(tactic| kpt_turns) => rows1 "op_neg,tr_bool,tr_none,tr_int"
local macro_rules | `(tactic| kpc_turns) => rows1 "op_add,op_sub,op_lt,op_le,op_gt,op_ge,op_eq,op_ne,op_eqS,op_neS"
local macro_rules | `(tactic| kfm_turns) => `(tactic| fail)
/-- one step of an expression or of a plain statement -/
local macro_rules | `(tactic| tb_start) => do
  let hole ← `(term| _)
  let d (h : String) (n : Nat) (t : Lean.TSyntax `tactic) : Lean.MacroM (Lean.TSyntax `tactic) :=
    onShow (Lean.Syntax.mkApp (Lean.mkIdent (.mkSimple h)) (.replicate n hole)) t
  let l ← [← d "Ev" 5 (← `(tactic| kat_tups)), ← d "Ex" 5 (← `(tactic| keq_hits)), ← d "Evs" 5 (← rows1 "ev_args_cons R,ev_args_nil"),
    ← d "SeqQ" 7 (← `(tactic| first | ((with_reducible refine seq_next ?_); (try dsimp only)) | $(← rows1 "seq_ret,seq_brk,seq_cont"):tactic)),
    ← d "Tt" 5 (← `(tactic| kp_flats)), ← d "And" 2 (← `(tactic| leaf_len)), ← rows1 "call_kc P", ← d "Exists" 1 (← rows1 "call_k P,ex_bool"),
    ← d "Op1" 7 (← `(tactic| kpt_turns)), ← d "Op2" 8 (← `(tactic| kpc_turns))].foldrM (fun a b => `(tactic| first | $a:tactic | $b:tactic)) (← `(tactic| kfm_turns))
  return l
-- EH
theorem warm : PySem.Challenge.rw_in0134_01 = PySem.Challenge.rw_in0134_01 ∧ Mine.K39 = Mine.K39 := by
  k_fill
  exact ⟨rfl, rfl⟩
noncomputable def IsT (os : List AO) (a : AV) (d : Int) (p : Str) : Prop := ∃ j, a = .obj j ∧ os[j]? = some (.tup [.int d, .str p])
noncomputable def Tups (kf : AV → Int × Str) (os : List AO) (l : List AV) : Prop := ∀ a ∈ l, IsT os a (kf a).1 (kf a).2
theorem IsT.set {os : List AO} {a : AV} {d : Int} {p : Str} {k : Nat} {l l' : List AV} (h : IsT os a d p) (hk : os[k]? = some (.list l)) : IsT (os.set k (.list l')) a d p := by
  obtain ⟨j, e, hj⟩ := h
  refine ⟨j, e, set_get_ne hj ?_⟩
  intro q; subst q; rw [hk] at hj; cases hj
theorem op_ltK {W : Wd} {c : Cx} {st : St} {a b : AV} {d1 d2 : Int} {p1 p2 : Str} {Q : AV → St → Prop} (ha : IsT st.os a d1 p1) (hb : IsT st.os b d2 p2) (h : Q (.bool (ltK d1 p1 d2 p2)) st) : Op2 W c VR st a b (compareOp .Lt) Q := by
  obtain ⟨i, rfl, hi⟩ := ha
  obtain ⟨j, rfl, hj⟩ := hb
  exact op_ltT hi hj h
theorem ltK_true {d1 d2 : Int} {p1 p2 : Str} (h : ltK d1 p1 d2 p2 = true) : d1 ≤ d2 := by
  unfold ltK at h
  simp only [Bool.or_eq_true, Bool.and_eq_true, decide_eq_true_eq] at h
  lsm_bools
theorem ltK_false {d1 d2 : Int} {p1 p2 : Str} (h : ltK d1 p1 d2 p2 = false) : d2 ≤ d1 := by
  unfold ltK at h
  simp only [Bool.or_eq_false_iff, decide_eq_false_iff_not] at h
  lsm_bools
theorem shr1 (p : Nat) (hp : 0 < p) : Int.fdiv ((p : Int) - 1) (2 ^ (1 : Int).toNat) = (((p - 1) / 2 : Nat) : Int) := by
  have : ((p : Int) - 1) = ((p - 1 : Nat) : Int) := by lsm_bools
  rw [this, Int.fdiv_eq_ediv_of_nonneg _ (by decide)]
  rfl
inductive SdEB (st : St) (k : Nat) (l : List AV) (x : AV) (kf : AV → Int × Str) (st' : St) (l1 : List AV) (n : Nat) : Prop
  | mk (h1 : st'.m.lookup (Str.ofString "heap") = some (.obj k)) (h2 : st'.m.lookup (Str.ofString "pos") = some (.int (n : Int))) (h3 : st'.m.lookup (Str.ofString "newitem") = some x) (h4 : st'.os = st.os.set k (.list l1)) (h5 : st'.gn = st.gn) (h6 : n < l1.length) (h7 : l1.length = l.length) (h8 : (l1.set n x).Perm l) (h9 : HPr (fun a => (kf a).1) (l1.set n x))
noncomputable abbrev SdE (st : St) (k : Nat) (l : List AV) (x : AV) (kf : AV → Int × Str) (st' : St) : Prop := ∃ (l1 : List AV) (n : Nat), SdEB st k l x kf st' l1 n
inductive SdIB (st : St) (k : Nat) (l : List AV) (x : AV) (kf : AV → Int × Str) (n : Nat) (st' : St) (l1 : List AV) : Prop
  | mk (h1 : st'.m.lookup (Str.ofString "heap") = some (.obj k)) (h2 : st'.m.lookup (Str.ofString "startpos") = some (.int 0)) (h3 : st'.m.lookup (Str.ofString "pos") = some (.int (n : Int))) (h4 : st'.m.lookup (Str.ofString "newitem") = some x) (h5 : st'.os = st.os.set k (.list l1)) (h6 : st'.gn = st.gn) (h7 : l1.length = l.length) (h8 : (l1.set n x).Perm l) (h9 : SD (fun a => (kf a).1) l1 n x) (h10 : (∀ a ∈ l1, a ∈ l))
noncomputable abbrev SdI (st : St) (k : Nat) (l : List AV) (x : AV) (kf : AV → Int × Str) (n : Nat) (st' : St) : Prop := ∃ (l1 : List AV), SdIB st k l x kf n st' l1
theorem spec_siftdown {w : World} {c : Cx} {st : St} {k : Nat} {l : List AV} {p : Nat} {x : AV} {kf : AV → Int × Str} {Q : AV → St → Prop} (hr : 1 ≤ c.room) (hk : st.os[k]? = some (.list l)) (hz : l.length ≤ 1000)
    (ht : Tups kf st.os l) (hx : l[p]? = some x) (hsd : SD (fun a => (kf a).1) l p x) (h : ∀ l', l'.Perm l → HPr (fun a => (kf a).1) l' → Q .none { st with os := st.os.set k (.list l') }) :
    CallV (WW w) c st (.ref 157) [.obj k, .int 0, .int p] Q := by
  (refine' call_pos (m0 := [(Str.ofString "heap", .obj k), (Str.ofString "startpos", .int 0), (Str.ofString "pos", .int p)]) ?ho ?hcd ?room ?hb ?hm ?hloc ?c1 ?c2 ?c3 ?c4 ?_; (case ho => (((try dsimp only [WW]); k_is))); (case hcd => (((try dsimp only [WW]); k_is))); (case c1 => exact rfl); (case c2 => exact rfl); (case c3 => exact rfl); (case c4 => decide); (case hm => (simp only [List.map_cons, List.map_nil]; decide)); (case hloc => (simp only [List.map_cons, List.map_nil]; decide)); (case room => lsm_bools); (case hb => first | (refine hb1 ?_; intro a; kernel_rfl) | (refine hb2 ?_; intro a b; kernel_rfl) | (refine hb3 ?_; intro a b d; kernel_rfl)))
  intro c' hs hcl hrm
  have hpl : p < l.length := hsd.1
  refine ex_cons ?_
  repeat' (first | tb_start | with_reducible first | refine ex_cons ?_ | refine ex_If ?_)
  refine sub_list hk (fun _ _ => rfl) (by lsm_bools) (by lsm_bools) (by simpa using hx) ?_
  refine seq_next ?_
  refine ex_seq (SdE st k l x kf)
    (ex_While (SdI st k l x kf) p ⟨l, by kct_strs, by kct_strs, by kct_strs, by kct_strs, (set_self hk).symm, rfl, rfl, by rw [set_nochange hx], hsd, fun a h => h⟩ ?_) ?_
  · rintro n ⟨m', os', gn'⟩ ⟨l1, e1, e2, e3, e4, e5, e6, e7, e8, e9, e10⟩
    dsimp only at e1 e2 e3 e4 e5 e6
    subst e5; subst e6
    have hk1 : (st.os.set k (.list l1))[k]? = some (.list l1) := set_get hk
    have hn : n < l1.length := e9.1
    repeat' (first | tb_start | with_reducible first | refine ex_cons ?_ | refine ex_If ?_)
    refine ⟨fun hb => ?_, fun hb => ?_⟩
    · have hn0 : 0 < n := by simpa using hb
      obtain ⟨y, hy⟩ : ∃ y, l1[(n - 1) / 2]? = some y := ⟨_, List.getElem?_eq_getElem (by lsm_bools)⟩
      have hy' : y ∈ l1 := List.mem_of_getElem? hy
      refine ex_cons ?_
      repeat' (first | tb_start | with_reducible first | refine ex_cons ?_ | refine ex_If ?_)
      refine op_shr (by decide) ?_
      rw [shr1 n hn0]
      refine seq_next ?_
      refine ex_cons ?_
      repeat' (first | tb_start | with_reducible first | refine ex_cons ?_ | refine ex_If ?_)
      refine sub_list hk1 (fun _ _ => rfl) (by lsm_bools) (by lsm_bools) (by rw [Int.toNat_natCast]; exact hy) ?_
      refine seq_next ?_
      refine ex_cons ?_
      repeat' (first | tb_start | with_reducible first | refine ex_cons ?_ | refine ex_If ?_)
      refine op_ltK ((ht x (List.mem_of_getElem? hx)).set hk) ((ht y (e10 y hy')).set hk) ?_
      repeat' (first | tb_start | with_reducible first | refine ex_cons ?_ | refine ex_If ?_)
      refine ⟨fun hq => ?_, fun hq => ?_⟩
      · have hxy := ltK_true hq
        repeat' (first | tb_start | with_reducible first | refine ex_cons ?_ | refine ex_If ?_)
        refine op_setL hk1 (by lsm_bools) (by lsm_bools) (by lsm_bools) ?_
        repeat' (first | tb_start | with_reducible first | refine ex_cons ?_ | refine ex_If ?_)
        refine ⟨(n - 1) / 2, by lsm_bools, l1.set n y, by kct_strs, by kct_strs, by kct_strs, by kct_strs, ?_, rfl, ?_, ?_, ?_, ?_⟩
        · show (st.os.set k _).set k _ = _
          rw [List.set_set]; simp
        · rw [List.length_set]; exact e7
        · exact (swap_perm hn (by lsm_bools) (by lsm_bools) hy).trans e8
        · exact SD.step _ e9 hn0 hy hxy
        · intro a ha
          rcases List.mem_or_eq_of_mem_set ha with h | h
          · exact e10 a h
          · subst h; exact e10 _ hy'
      · have hxy := ltK_false hq
        repeat' (first | tb_start | with_reducible first | refine ex_cons ?_ | refine ex_If ?_)
        exact ⟨rfl, l1, n, by kct_strs, by kct_strs, by kct_strs, rfl, rfl, hn, e7, e8, SD.stop _ e9 (Or.inr ⟨y, hy, hxy⟩)⟩
    · have hn0 : n = 0 := by simpa using hb
      repeat' (first | tb_start | with_reducible first | refine ex_cons ?_ | refine ex_If ?_)
      exact ⟨rfl, l1, n, by kct_strs, by kct_strs, by kct_strs, rfl, rfl, hn, e7, e8, SD.stop _ e9 (Or.inl hn0)⟩
  · rintro ⟨m', os', gn'⟩ ⟨l1, n, e1, e2, e3, e4, e5, e6, e7, e8, e9⟩
    dsimp only at e1 e2 e3 e4 e5
    subst e4; subst e5
    have hk1 : (st.os.set k (.list l1))[k]? = some (.list l1) := set_get hk
    repeat' (first | tb_start | with_reducible first | refine ex_cons ?_ | refine ex_If ?_)
    refine op_setL hk1 (by lsm_bools) (by lsm_bools) (by lsm_bools) ?_
    repeat' (first | tb_start | with_reducible first | refine ex_cons ?_ | refine ex_If ?_)
    have := h (l1.set n x) e8 e9
    simpa [List.set_set] using this

theorem spec_heappush {w : World} {c : Cx} {st : St} {k : Nat} {l : List AV} {a : AV} {kf : AV → Int × Str} {Q : AV → St → Prop} (hr : 2 ≤ c.room) (hk : st.os[k]? = some (.list l)) (hz : l.length ≤ 900)
    (ht : Tups kf st.os (l ++ [a])) (hp : HPr (fun a => (kf a).1) l) (h : ∀ l', l'.Perm (l ++ [a]) → HPr (fun a => (kf a).1) l' → Q .none { st with os := st.os.set k (.list l') }) :
    CallV (WW w) c st (.ref 136) [.obj k, a] Q := by
  (refine' call_pos (m0 := [(Str.ofString "heap", .obj k), (Str.ofString "item", a)]) ?ho ?hcd ?room ?hb ?hm ?hloc ?c1 ?c2 ?c3 ?c4 ?_; (case ho => (((try dsimp only [WW]); k_is))); (case hcd => (((try dsimp only [WW]); k_is))); (case c1 => exact rfl); (case c2 => exact rfl); (case c3 => exact rfl); (case c4 => decide); (case hm => (simp only [List.map_cons, List.map_nil]; decide)); (case hloc => (simp only [List.map_cons, List.map_nil]; decide)); (case room => lsm_bools); (case hb => first | (refine hb1 ?_; intro a; kernel_rfl) | (refine hb2 ?_; intro a b; kernel_rfl) | (refine hb3 ?_; intro a b d; kernel_rfl)))
  intro c' hs hcl hrm
  refine ex_cons ?_
  repeat' (first | tb_start | with_reducible first | refine ex_cons ?_ | refine ex_If ?_)
  refine getM_list hk PySem.F.slot_list_append PySem.F.type_list_append ?_
  repeat' (first | tb_start | with_reducible first | refine ex_cons ?_ | refine ex_If ?_)
  refine call_append hk (by lsm_bools) ?_
  repeat' (first | tb_start | with_reducible first | refine ex_cons ?_ | refine ex_If ?_)
  have hk1 : (st.os.set k (.list (l ++ [a])))[k]? = some (.list (l ++ [a])) := set_get hk
  refine call_lenL hk1 (by simp; lsm_bools) ?_
  repeat' (first | tb_start | with_reducible first | refine ex_cons ?_ | refine ex_If ?_)
  have e : (((l ++ [a]).length : Int) - 1) = (l.length : Int) := by simp
  rw [e]
  refine spec_siftdown (l := l ++ [a]) (x := a) (kf := kf) (by lsm_bools) hk1 (by simp; lsm_bools) ?_ (by simp) (SD.push _ hp) ?_
  · intro b hb; exact (ht b hb).set hk
  · intro l' h1 h2
    repeat' (first | tb_start | with_reducible first | refine ex_cons ?_ | refine ex_If ?_)
    have := h l' h1 h2
    simpa [List.set_set] using this

inductive SuEB (st : St) (k : Nat) (l : List AV) (x : AV) (kf : AV → Int × Str) (st' : St) (l1 : List AV) (n : Nat) : Prop
  | mk (h1 : st'.m.lookup (Str.ofString "heap") = some (.obj k)) (h2 : st'.m.lookup (Str.ofString "pos") = some (.int (n : Int))) (h3 : st'.m.lookup (Str.ofString "startpos") = some (.int 0)) (h4 : st'.m.lookup (Str.ofString "newitem") = some x) (h5 : st'.os = st.os.set k (.list l1)) (h6 : st'.gn = st.gn) (h7 : l1.length = l.length) (h8 : (l1.set n x).Perm l) (h9 : SD (fun a => (kf a).1) l1 n x) (h10 : (∀ a ∈ l1, a ∈ l))
noncomputable abbrev SuE (st : St) (k : Nat) (l : List AV) (x : AV) (kf : AV → Int × Str) (st' : St) : Prop := ∃ (l1 : List AV) (n : Nat), SuEB st k l x kf st' l1 n
inductive SuIB (st : St) (k : Nat) (l : List AV) (x : AV) (kf : AV → Int × Str) (j : Nat) (st' : St) (l1 : List AV) (n : Nat) : Prop
  | mk (h1 : j + n = l.length) (h2 : st'.m.lookup (Str.ofString "heap") = some (.obj k)) (h3 : st'.m.lookup (Str.ofString "pos") = some (.int (n : Int))) (h4 : st'.m.lookup (Str.ofString "startpos") = some (.int 0)) (h5 : st'.m.lookup (Str.ofString "newitem") = some x) (h6 : st'.m.lookup (Str.ofString "endpos") = some (.int (l.length : Int))) (h7 : st'.m.lookup (Str.ofString "childpos") = some (.int (2 * (n : Int) + 1))) (h8 : st'.os = st.os.set k (.list l1)) (h9 : st'.gn = st.gn) (h10 : l1.length = l.length) (h11 : (l1.set n x).Perm l) (h12 : SU (fun a => (kf a).1) l1 n) (h13 : (∀ a ∈ l1, a ∈ l))
noncomputable abbrev SuI (st : St) (k : Nat) (l : List AV) (x : AV) (kf : AV → Int × Str) (j : Nat) (st' : St) : Prop := ∃ (l1 : List AV) (n : Nat), SuIB st k l x kf j st' l1 n
theorem spec_siftup {w : World} {c : Cx} {st : St} {k : Nat} {l : List AV} {kf : AV → Int × Str} {Q : AV → St → Prop} (hr : 2 ≤ c.room) (hk : st.os[k]? = some (.list l)) (hz : l.length ≤ 900)
    (ht : Tups kf st.os l) (hsu : SU (fun a => (kf a).1) l 0) (h : ∀ l', l'.Perm l → HPr (fun a => (kf a).1) l' → Q .none { st with os := st.os.set k (.list l') }) :
    CallV (WW w) c st (.ref 164) [.obj k, .int 0] Q := by
  have hl0 : 0 < l.length := hsu.1
  obtain ⟨x, hx⟩ : ∃ x, l[0]? = some x := ⟨_, List.getElem?_eq_getElem hl0⟩
  (refine' call_pos (m0 := [(Str.ofString "heap", .obj k), (Str.ofString "pos", .int 0)]) ?ho ?hcd ?room ?hb ?hm ?hloc ?c1 ?c2 ?c3 ?c4 ?_; (case ho => (((try dsimp only [WW]); k_is))); (case hcd => (((try dsimp only [WW]); k_is))); (case c1 => exact rfl); (case c2 => exact rfl); (case c3 => exact rfl); (case c4 => decide); (case hm => (simp only [List.map_cons, List.map_nil]; decide)); (case hloc => (simp only [List.map_cons, List.map_nil]; decide)); (case room => lsm_bools); (case hb => first | (refine hb1 ?_; intro a; kernel_rfl) | (refine hb2 ?_; intro a b; kernel_rfl) | (refine hb3 ?_; intro a b d; kernel_rfl)))
  intro c' hs hcl hrm
  repeat' (first | tb_start | with_reducible first | refine ex_cons ?_ | refine ex_If ?_)
  refine call_lenL hk (by lsm_bools) ?_
  repeat' (first | tb_start | with_reducible first | refine ex_cons ?_ | refine ex_If ?_)
  refine sub_list hk (fun _ _ => rfl) (by decide) (by decide) hx ?_
  repeat' (first | tb_start | with_reducible first | refine ex_cons ?_ | refine ex_If ?_)
  refine op_mul (by mul_fits) ?_
  repeat' (first | tb_start | with_reducible first | refine ex_cons ?_ | refine ex_If ?_)
  refine ex_J (SuE st k l x kf)
    (ex_While (SuI st k l x kf) l.length
      ⟨l, 0, rfl, by kct_strs, by kct_strs, by kct_strs, by kct_strs, by kct_strs, by kct_strs, (set_self hk).symm, rfl, rfl, by rw [set_nochange hx], hsu, fun a h => h⟩ ?_) ?_
  · rintro j ⟨m', os', gn'⟩ ⟨l1, n, hj, e1, e2, e3, e4, e5, e6, e7, e8, e9, e10, e11, e12⟩
    dsimp only at e1 e2 e3 e4 e5 e6 e7 e8
    subst e7; subst e8
    have hk1 : (st.os.set k (.list l1))[k]? = some (.list l1) := set_get hk
    have hn : n < l1.length := e11.1
    repeat' (first | tb_start | with_reducible first | refine ex_cons ?_ | refine ex_If ?_)
    refine ⟨fun hb => ?_, fun hb => ?_⟩
    · have hc : 2 * n + 1 < l1.length := by have := of_decide_eq_true hb; lsm_bools
      obtain ⟨y, hy⟩ : ∃ y, l1[2 * n + 1]? = some y := ⟨_, List.getElem?_eq_getElem hc⟩
      have hyl : y ∈ l1 := List.mem_of_getElem? hy
      have hyk : KK (fun a => (kf a).1) l1 (2 * n + 1) = (kf y).1 := KK_get _ hy
      refine ex_cons ?_
      repeat' tb_start
      refine ex_seq (fun st' => ∃ (cc : Nat) (z : AV), (cc = 2 * n + 1 ∨ cc = 2 * n + 2) ∧ cc < l1.length ∧ l1[cc]? = some z ∧ (∀ i, i < l1.length → (i - 1) / 2 = n → 0 < i → (kf z).1 ≤ KK (fun a => (kf a).1) l1 i) ∧
          st'.m.lookup (Str.ofString "heap") = some (.obj k) ∧ st'.m.lookup (Str.ofString "pos") = some (.int (n : Int)) ∧ st'.m.lookup (Str.ofString "startpos") = some (.int 0) ∧ st'.m.lookup (Str.ofString "newitem") = some x ∧ st'.m.lookup (Str.ofString "endpos") = some (.int (l.length : Int)) ∧ st'.m.lookup (Str.ofString "childpos") = some (.int (cc : Int)) ∧
          st'.os = st.os.set k (.list l1) ∧ st'.gn = st.gn) ?_ ?_
      · repeat' (first | tb_start | with_reducible first | refine ex_cons ?_ | refine ex_If ?_)
        · refine ⟨fun h1 => ?_, fun h1 => ?_⟩
          · repeat' (first | tb_start | with_reducible first | refine ex_cons ?_ | refine ex_If ?_)
            have hnr : ¬ (2 * n + 2 < l1.length) := by
              intro q; have := of_decide_eq_false h1; lsm_bools
            refine ⟨rfl, 2 * n + 1, y, Or.inl rfl, hc, hy, ?_, by kct_strs, by kct_strs, by kct_strs, by kct_strs, by kct_strs, by rw [show ((2 * n + 1 : Nat) : Int) = 2 * (n : Int) + 1 by lsm_bools]; kct_strs, rfl, rfl⟩
            intro i hi hp h0
            have : i = 2 * n + 1 := by lsm_bools
            subst this; rw [hyk]; exact Int.le_refl _
          · have hr2 : 2 * n + 2 < l1.length := by have := of_decide_eq_true h1; lsm_bools
            obtain ⟨z, hzz⟩ : ∃ z, l1[2 * n + 2]? = some z := ⟨_, List.getElem?_eq_getElem hr2⟩
            have hzk : KK (fun a => (kf a).1) l1 (2 * n + 2) = (kf z).1 := KK_get _ hzz
            repeat' (first | tb_start | with_reducible first | refine ex_cons ?_ | refine ex_If ?_)
            refine sub_list hk1 (fun _ _ => rfl) (by lsm_bools) (by lsm_bools) (by rw [show (2 * (n : Int) + 1).toNat = 2 * n + 1 by lsm_bools]; exact hy) ?_
            repeat' (first | tb_start | with_reducible first | refine ex_cons ?_ | refine ex_If ?_)
            refine sub_list hk1 (fun _ _ => rfl) (by lsm_bools) (by lsm_bools) (by rw [show (2 * (n : Int) + 1 + 1).toNat = 2 * n + 2 by lsm_bools]; exact hzz) ?_
            refine op_ltK ((ht y (e12 y hyl)).set hk) ((ht z (e12 z (List.mem_of_getElem? hzz))).set hk) ?_
            repeat' (first | tb_start | with_reducible first | refine ex_cons ?_ | refine ex_If ?_)
            · refine ⟨fun h2 => ?_, fun h2 => ?_⟩
              · have h2' : ltK (kf y).1 (kf y).2 (kf z).1 (kf z).2 = true := by simpa using h2
                have hle := ltK_true h2'
                repeat' (first | tb_start | with_reducible first | refine ex_cons ?_ | refine ex_If ?_)
                refine ⟨rfl, 2 * n + 1, y, Or.inl rfl, hc, hy, ?_, by kct_strs, by kct_strs, by kct_strs, by kct_strs, by kct_strs, by rw [show ((2 * n + 1 : Nat) : Int) = 2 * (n : Int) + 1 by lsm_bools]; kct_strs, rfl, rfl⟩
                intro i hi hp h0
                rcases (show i = 2 * n + 1 ∨ i = 2 * n + 2 by lsm_bools) with rfl | rfl
                · rw [hyk]; exact Int.le_refl _
                · rw [hzk]; exact hle
              · have h2' : ltK (kf y).1 (kf y).2 (kf z).1 (kf z).2 = false := by simpa using h2
                have hle := ltK_false h2'
                repeat' (first | tb_start | with_reducible first | refine ex_cons ?_ | refine ex_If ?_)
                refine ⟨rfl, 2 * n + 2, z, Or.inr rfl, hr2, hzz, ?_, by kct_strs, by kct_strs, by kct_strs, by kct_strs, by kct_strs, ?_, rfl, rfl⟩
                · intro i hi hp h0
                  rcases (show i = 2 * n + 1 ∨ i = 2 * n + 2 by lsm_bools) with rfl | rfl
                  · rw [hyk]; exact hle
                  · rw [hzk]; exact Int.le_refl _
                · have : (2 * (n : Int) + 1 + 1) = ((2 * n + 2 : Nat) : Int) := by lsm_bools
                  rw [← this]; kct_strs
      · rintro ⟨m2, os2, gn2⟩ ⟨cc, z, hcc, hcl, hz, hmin, f1, f2, f3, f4, f5, f6, f7, f8⟩
        dsimp only at f1 f2 f3 f4 f5 f6 f7 f8
        subst f7; subst f8
        have hzl : z ∈ l1 := List.mem_of_getElem? hz
        repeat' (first | tb_start | with_reducible first | refine ex_cons ?_ | refine ex_If ?_)
        refine sub_listN hk1 (fun _ _ => rfl) (by lsm_bools) hz ?_
        repeat' (first | tb_start | with_reducible first | refine ex_cons ?_ | refine ex_If ?_)
        refine op_setN hk1 (by lsm_bools) (by lsm_bools) ?_
        repeat' (first | tb_start | with_reducible first | refine ex_cons ?_ | refine ex_If ?_)
        refine op_mul (by mul_fits) ?_
        repeat' (first | tb_start | with_reducible first | refine ex_cons ?_ | refine ex_If ?_)
        refine ⟨l.length - cc, by lsm_bools, l1.set n z, cc, by lsm_bools, by kct_strs, by kct_strs, by kct_strs, by kct_strs, by kct_strs, by kct_strs, ?_, rfl, ?_, ?_, SU.step _ e11 hcc hcl hz hmin, ?_⟩
        · show (st.os.set k _).set k _ = _
          rw [List.set_set]
        · rw [List.length_set]; exact e9
        · exact (swap_perm hn hcl (by lsm_bools) hz).trans e10
        · intro a ha
          rcases List.mem_or_eq_of_mem_set ha with h | h
          · exact e12 a h
          · subst h; exact e12 _ hzl
    · have hc : l1.length ≤ 2 * n + 1 := by have := of_decide_eq_false hb; lsm_bools
      repeat' (first | tb_start | with_reducible first | refine ex_cons ?_ | refine ex_If ?_)
      exact ⟨rfl, l1, n, by kct_strs, by kct_strs, by kct_strs, by kct_strs, rfl, rfl, e9, e10, SU.leaf _ e11 hc, e12⟩
  · rintro ⟨m', os', gn'⟩ ⟨l1, n, e1, e2, e3, e4, e5, e6, e7, e8, e9, e10⟩
    dsimp only at e1 e2 e3 e4 e5 e6
    subst e5; subst e6
    have hk1 : (st.os.set k (.list l1))[k]? = some (.list l1) := set_get hk
    have hn : n < l1.length := e9.1
    repeat' (first | tb_start | with_reducible first | refine ex_cons ?_ | refine ex_If ?_)
    refine op_setN hk1 (by lsm_bools) (by lsm_bools) ?_
    repeat' (first | tb_start | with_reducible first | refine ex_cons ?_ | refine ex_If ?_)
    have hk2 : (({ m := m', os := (st.os.set k (.list l1)).set k (.list (l1.set n x)), gn := st.gn } : St)).os[k]? = some (.list (l1.set n x)) := set_get hk1
    refine spec_siftdown (l := l1.set n x) (x := x) (kf := kf) (p := n) (by lsm_bools) hk2 (by rw [List.length_set]; lsm_bools) ?_ (by simp [hn]) ?_ ?_
    · intro b hb
      have : b ∈ l := e8.mem_iff.mp hb
      exact ((ht b this).set hk).set hk1
    · obtain ⟨q1, q2, q3⟩ := e9
      refine ⟨by rw [List.length_set]; exact q1, ?_, ?_⟩
      · rw [List.length_set, List.set_set]; exact q2
      · rw [List.length_set, List.set_set]; exact q3
    · intro l' h1 h2
      repeat' (first | tb_start | with_reducible first | refine ex_cons ?_ | refine ex_If ?_)
      have := h l' (h1.trans e8) h2
      simp only [List.set_set]
      exact this
-- EH2
theorem HPr.init {α : Type} {k : α → Int} {l : List α} {z : α} (h : HPr k (l ++ [z])) : HPr k l := by
  intro i hi hil
  have := h i hi (by simp; lsm_bools)
  have e : ∀ j, j < l.length → KK k (l ++ [z]) j = KK k l j := by intro j hj; unfold KK; rw [List.getElem?_append_left hj]
  rw [e _ (by lsm_bools), e _ hil] at this
  exact this
theorem HPr.head_le {α : Type} {k : α → Int} {y : α} {t : List α} (h : HPr k (y :: t)) : ∀ b ∈ y :: t, k y ≤ k b := by
  intro b hb
  obtain ⟨i, hi, rfl⟩ := List.getElem_of_mem hb
  have := HPr.min k h i hi
  rw [KK_get k (a := y) (by simp), KK_get k (a := (y :: t)[i]) (by simp [hi])] at this
  exact this
theorem spec_heappop {w : World} {c : Cx} {st : St} {k : Nat} {l : List AV} {kf : AV → Int × Str} {Q : AV → St → Prop} (hr : 3 ≤ c.room) (hk : st.os[k]? = some (.list l)) (hz : l.length ≤ 900) (hne : l ≠ [])
    (ht : Tups kf st.os l) (hp : HPr (fun a => (kf a).1) l) (h : ∀ r l', (r :: l').Perm l → HPr (fun a => (kf a).1) l' → (∀ b ∈ l, (kf r).1 ≤ (kf b).1) → Q r { st with os := st.os.set k (.list l') }) :
    CallV (WW w) c st (.ref 143) [.obj k] Q := by
  obtain ⟨l0, z, rfl⟩ : ∃ l0 z, l = l0 ++ [z] := ⟨l.dropLast, l.getLast hne, (List.dropLast_concat_getLast hne).symm⟩
  have hlen : l0.length ≤ 899 := by simp at hz; lsm_bools
  (refine' call_pos (m0 := [(Str.ofString "heap", .obj k)]) ?ho ?hcd ?room ?hb ?hm ?hloc ?c1 ?c2 ?c3 ?c4 ?_; (case ho => (((try dsimp only [WW]); k_is))); (case hcd => (((try dsimp only [WW]); k_is))); (case c1 => exact rfl); (case c2 => exact rfl); (case c3 => exact rfl); (case c4 => decide); (case hm => (simp only [List.map_cons, List.map_nil]; decide)); (case hloc => (simp only [List.map_cons, List.map_nil]; decide)); (case room => lsm_bools); (case hb => first | (refine hb1 ?_; intro a; kernel_rfl) | (refine hb2 ?_; intro a b; kernel_rfl) | (refine hb3 ?_; intro a b d; kernel_rfl)))
  intro c' hs hcl hrm
  repeat' (first | tb_start | with_reducible first | refine ex_cons ?_ | refine ex_If ?_)
  refine getM_list hk PySem.F.slot_list_pop PySem.F.type_list_pop ?_
  repeat' (first | tb_start | with_reducible first | refine ex_cons ?_ | refine ex_If ?_)
  refine call_pop hk (by lsm_bools) ?_
  have hk1 : (st.os.set k (.list l0))[k]? = some (.list l0) := set_get hk
  repeat' (first | tb_start | with_reducible first | refine ex_cons ?_ | refine ex_If ?_)
  refine tt_plain rfl ?_
  repeat' (first | tb_start | with_reducible first | refine ex_cons ?_ | refine ex_If ?_)
  refine tr_list hk1 (by lsm_bools) ?_
  cases l0 with
  | nil =>
    refine br_false rfl ?_
    repeat' (first | tb_start | with_reducible first | refine ex_cons ?_ | refine ex_If ?_)
    exact h z [] (by simp) (fun i hi hil => by simp at hil) (fun b hb => by simp at hb; subst hb; exact Int.le_refl _)
  | cons y t =>
    have hp0 : HPr (fun a => (kf a).1) (y :: t) := hp.init
    have hmin := HPr.head_le hp
    refine br_true rfl ?_
    repeat' (first | tb_start | with_reducible first | refine ex_cons ?_ | refine ex_If ?_)
    refine sub_list hk1 (fun _ _ => rfl) (by decide) (by decide) (a := y) rfl ?_
    repeat' (first | tb_start | with_reducible first | refine ex_cons ?_ | refine ex_If ?_)
    refine op_setL hk1 (by decide) (by decide) (by simp <;> lsm_bools) ?_
    repeat' (first | tb_start | with_reducible first | refine ex_cons ?_ | refine ex_If ?_)
    have hk2 : (((st.os.set k (.list (y :: t))).set k (.list ((y :: t).set (0 : Int).toNat z))))[k]? = some (.list (z :: t)) := set_get hk1
    refine spec_siftup (l := z :: t) (kf := kf) (by lsm_bools) hk2 (by simp at hlen ⊢; lsm_bools) ?_ ?_ ?_
    · intro b hb
      exact ((ht b (by simp at hb ⊢; rcases hb with rfl | hb <;> simp [*])).set hk).set hk1
    · have := SU.start (k := fun a => (kf a).1) (x := z) hp0 (by simp)
      simpa using this
    · intro l' h1 h2
      repeat' (first | tb_start | with_reducible first | refine ex_cons ?_ | refine ex_If ?_)
      have := h y l' (by
        refine (h1.cons y).trans ?_
        have : (y :: z :: t).Perm (y :: (t ++ [z])) := (List.perm_append_singleton z t).symm.cons y
        simpa using this) h2 (by simpa using hmin)
      simp only [List.set_set]
      exact this
theorem spec_heapreplace {w : World} {c : Cx} {st : St} {k : Nat} {y : AV} {t : List AV} {x : AV} {kf : AV → Int × Str} {Q : AV → St → Prop} (hr : 3 ≤ c.room) (hk : st.os[k]? = some (.list (y :: t))) (hz : t.length ≤ 800)
    (ht : Tups kf st.os (x :: t)) (hp : HPr (fun a => (kf a).1) (y :: t)) (h : ∀ l', l'.Perm (x :: t) → HPr (fun a => (kf a).1) l' → (∀ b ∈ y :: t, (kf y).1 ≤ (kf b).1) → Q y { st with os := st.os.set k (.list l') }) :
    CallV (WW w) c st (.ref 150) [.obj k, x] Q := by
  have hmin := HPr.head_le hp
  (refine' call_pos (m0 := [(Str.ofString "heap", .obj k), (Str.ofString "item", x)]) ?ho ?hcd ?room ?hb ?hm ?hloc ?c1 ?c2 ?c3 ?c4 ?_; (case ho => (((try dsimp only [WW]); k_is))); (case hcd => (((try dsimp only [WW]); k_is))); (case c1 => exact rfl); (case c2 => exact rfl); (case c3 => exact rfl); (case c4 => decide); (case hm => (simp only [List.map_cons, List.map_nil]; decide)); (case hloc => (simp only [List.map_cons, List.map_nil]; decide)); (case room => lsm_bools); (case hb => first | (refine hb1 ?_; intro a; kernel_rfl) | (refine hb2 ?_; intro a b; kernel_rfl) | (refine hb3 ?_; intro a b d; kernel_rfl)))
  intro c' hs hcl hrm
  repeat' (first | tb_start | with_reducible first | refine ex_cons ?_ | refine ex_If ?_)
  refine sub_list hk (fun _ _ => rfl) (by decide) (by decide) (a := y) rfl ?_
  repeat' (first | tb_start | with_reducible first | refine ex_cons ?_ | refine ex_If ?_)
  refine op_setL hk (by decide) (by decide) (by simp <;> lsm_bools) ?_
  repeat' (first | tb_start | with_reducible first | refine ex_cons ?_ | refine ex_If ?_)
  have hk1 : (st.os.set k (.list ((y :: t).set (0 : Int).toNat x)))[k]? = some (.list (x :: t)) := set_get hk
  refine spec_siftup (l := x :: t) (kf := kf) (by lsm_bools) hk1 (by simp; lsm_bools) ?_ ?_ ?_
  · intro b hb
    exact (ht b hb).set hk
  · have := SU.start (k := fun a => (kf a).1) (x := x) hp (by simp)
    simpa using this
  · intro l' h1 h2
    repeat' (first | tb_start | with_reducible first | refine ex_cons ?_ | refine ex_If ?_)
    have := h l' h1 h2 hmin
    simp only [List.set_set]
    exact this
-- VI
/-- an iterator of kind T over object k, at place i -/
@[reducible] noncomputable def itM (T : String) (k i : Nat) : MP := ⟨fun ρ o => ∃ a, ρ[k]? = some a ∧ o.cls = .type T ∧ o.data = .fields #[.ref a, .int i 0], fun ρ ρ' o ⟨a, h, r⟩ => ⟨a, idx_app h, r⟩⟩
noncomputable def itO (T : String) (k i : Nat) : AO := .gen (itM T k i)
noncomputable def anyO : AO := .gen ⟨fun _ _ => True, fun _ _ _ _ => trivial⟩
noncomputable def rgO (x left step : Int) : AO := .raw { cls := .type "range_iterator", dict := none, data := .fields #[rawInt x, rawInt left, rawInt step], slots := #[] }
noncomputable def rangeO (a b d : Int) : AO := .gen ⟨fun _ o => ∃ t u v, o = { cls := .type "range", dict := none, data := .fields #[.int a t, .int b u, .int d v], slots := #[] }, fun _ _ _ h => h⟩
noncomputable def enO (k i : Nat) : AO := .gen ⟨fun ρ o => ∃ a old, ρ[k]? = some a ∧ o = { cls := .type "enumerate", dict := none, data := .fields #[.none, .bool false, .ref a, rawInt i, .none, old], slots := #[] }, fun ρ ρ' o ⟨a, old, h, r⟩ => ⟨a, old, idx_app h, r⟩⟩

noncomputable def OptR (ρ : List Addr) : Option AV → Option Value → Prop
  | none, v => v = none
  | some a, v => ∃ u, v = some u ∧ a.rel ρ u
noncomputable abbrev Nx (W : Wd) (c : Cx) (st : St) (a : AV) (Q : Option AV → St → Prop) : Prop := Op1 W c OptR st a pyNext Q
noncomputable abbrev It (W : Wd) (c : Cx) (st : St) (a : AV) (Q : AV → St → Prop) : Prop := Op1 W c VR st a pyIter Q

section
variable {W : Wd} {c : Cx} {ρ : List Addr} {st : St} {s : Shared}

theorem Rp.alter (r : Rp W c ρ st s) {k : Nat} {a : Addr} {o' : AO} {ob' : Obj} {h' : Heap} {n : Nat} (hk : ρ[k]? = some a) (hs : Heap.ExtBut a s.heap h') (hg : h'.get? a = some ob') (ho : o'.rel W.w.params ρ ob') :
    Rp W c ρ { st with os := st.os.set k o' } { s with heap := h', toks := n } := by
  obtain ⟨M, hM, hL⟩ := r.ns
  have fa := r.fresh a (List.mem_of_getElem? hk)
  refine ⟨r.ok, ⟨M, hM.extBut hs (Ne.symm fa.1), hL⟩, ?_, r.above, ⟨by simp [r.objs.len], ?_⟩, r.fresh, r.nodup, r.cells, r.gens, r.os⟩
  · intro b o e
    refine hs b o ?_ (r.keep b o e)
    intro q; subst q; rw [e] at fa; exact nomatch fa.2
  · intro j o hj
    have hj' : (st.os.set k o')[j]? = some o := hj
    by_cases hjk : k = j
    · subst hjk
      have : k < st.os.length := by have := (List.getElem?_eq_some_iff.mp hk).1; rw [r.objs.len] at this; exact this
      rw [List.getElem?_set_self this] at hj'
      cases hj'
      exact ⟨a, ob', hk, hg, ho⟩
    · rw [List.getElem?_set_ne hjk] at hj'
      obtain ⟨a', ob, h1, h2, h3⟩ := r.objs.at_ j o hj'
      refine ⟨a', ob, h1, hs a' ob ?_ h2, h3⟩
      intro e; subst e
      obtain ⟨l1, e1⟩ := List.getElem?_eq_some_iff.mp h1
      obtain ⟨l2, e2⟩ := List.getElem?_eq_some_iff.mp hk
      exact hjk (nodup_inj r.nodup l2 l1 (e2.trans e1.symm))

theorem Rp.grow (r : Rp W c ρ st s) {h' : Heap} {n : Nat} (hs : ∀ b o, s.heap.get? b = some o → h'.get? b = some o) : Rp W c ρ st { s with heap := h', toks := n } := by
  obtain ⟨M, hM, hL⟩ := r.ns
  exact ⟨r.ok, ⟨M, hM.keeps hs, hL⟩, fun b o e => hs b o (r.keep b o e), r.above, ⟨r.objs.len, fun k o e => let ⟨a, ob, h1, h2, h3⟩ := r.objs.at_ k o e; ⟨a, ob, h1, hs _ _ h2, h3⟩⟩, r.fresh, r.nodup, r.cells, r.gens, r.os⟩

theorem Rp.side (r : Rp W c ρ st s) {C : Addr} {h' : Heap} (hs : Heap.SameBut C s.heap h') (h1 : C ≠ c.L) (h2 : C ∉ ρ) (h3 : c.g.get? C = none) : Rp W c ρ st { s with heap := h' } := by
  obtain ⟨M, hM, hL⟩ := r.ns
  refine ⟨r.ok, ⟨M, hM.sameBut hs (Ne.symm h1), hL⟩, fun b o e => (hs.2 b ?_).trans (r.keep b o e), r.above, ⟨r.objs.len, fun k o e => ?_⟩, r.fresh, r.nodup, r.cells, r.gens, r.os⟩
  · intro q; subst q; rw [e] at h3; cases h3
  · obtain ⟨a, ob, e1, e2, e3⟩ := r.objs.at_ k o e
    exact ⟨a, ob, e1, (hs.2 a (by intro q; subst q; exact h2 (List.mem_of_getElem? e1))).trans e2, e3⟩

inductive AtR (W : Wd) (ρ : List Addr) (s : Shared) (k : Nat) (o : AO) (v : Value) : Prop
  | mk (a : Addr) (ob : Obj) (e : v = .ref a) (h1 : ρ[k]? = some a) (h2 : s.heap.get? a = some ob) (h3 : o.rel W.w.params ρ ob)
theorem Rp.at_ (r : Rp W c ρ st s) {k : Nat} {o : AO} {v : Value} (hk : st.os[k]? = some o) (hv : AV.rel ρ (.obj k) v) : AtR W ρ s k o v := by
  obtain ⟨a, ob, h1, h2, h3⟩ := r.objs.at_ k _ hk
  obtain ⟨a', h5, h6⟩ := hv
  rw [h1] at h5; cases h5
  exact ⟨a, ob, h6, h1, h2, h3⟩
end

/-! the end of an iterator: what the one object holds then -/
section
variable {prog : Program} {w : World} {A : Around} {E : Value → Shared → Prop} {s : Shared}

theorem ext_get {h : Heap} {a b d : Addr} {o1 o2 : Obj} {f : Obj → Obj} {o : Obj} (ho : h.get? a = some o) (hf : (f o).isFreed = false) : (((h.update a f).push o1).push o2).get? a = some (f o) :=
  Heap.get?_push_of_some _ (Heap.get?_push_of_some _ (Heap.get?_update_self _ ho hf))
/-- StopIteration is raised -/
theorem stop_raise {α : Type} {R : α → Shared → Prop} (hh : A.handled = none) (h : ∀ o1 o2 : Obj, ((s.heap.push o1).push o2).get? (s.heap.push o1).objs.size = some o2 → o2.cls = .type "StopIteration" → E (.ref (s.heap.push o1).objs.size) { s with heap := (s.heap.push o1).push o2 }) :
    wpAny (model prog w) A (newExc (.type "StopIteration") [] >>= fun e => (raiseNew e : Sem α)) R E s := by
  refine wpAny_bind ?_
  unfold newExc newTuple
  refine wpAny_bind (wpAny_newObj_type ?_ (by size_fits))
  refine wpAny_bind (m := firstArgMember _ _) (wpAny_of_eq (a := Value.none) (by first | rfl | (simp only [firstArgMember]; rfl)) ?_)
  refine wpAny_newObj_type ?_ (by size_fits)
  unfold raiseNew
  refine wpAny_bind (wpAny_handled ?_)
  rw [hh]
  exact wpAny_bind (wpAny_pure (wpAny_throw (h _ _ (Heap.get?_push_size _ rfl) rfl)))
theorem end_list {it l : Addr} {i : Nat} {items} {Q : Option Value → Shared → Prop} (hh : A.handled = none)
    (hit : s.heap.IsListIter it l i) (hl : s.heap.IsList l items) (hx : items[i]? = none)
    (hQ : ∀ h' ob, Heap.ExtBut it s.heap h' → h'.get? it = some ob → Q none { s with heap := h' }) : wpAny (model prog w) A (pyNext (.ref it)) Q E s := by
  obtain ⟨o, ho, hc, hd⟩ := id hit
  obtain ⟨ol, hol, _, nl, hdl⟩ := hl
  unfold pyNext
  refine wpAny_bind (wpAny_attempt (wpAny_callSpecial?_slot (name := Str.ofString "__next__") hit.typeIs slot_listiter_next
    (wpAny_call_entry slot_listiter_next hit.typeIs entry_listiter_next ?_ (args_listiter_next _))))
  show wpAny _ _ (field (.ref it) 0 >>= _) _ _ s
  refine wpAny_bind (wpAny_field ho hd (x := .ref l) rfl ?_)
  show wpAny _ _ (if (Value.ref l == Value.none) = true then _ else _) _ _ s
  rw [if_neg (show ¬ ((Value.ref l == Value.none) = true) from Bool.false_ne_true)]
  show wpAny _ _ (field (.ref it) 1 >>= _) _ _ s
  refine wpAny_bind (wpAny_field ho hd (x := .int i 0) rfl ?_)
  show wpAny _ _ (seqItems? (.ref l) >>= _) _ _ s
  refine wpAny_bind (wpAny_seqItems hol hdl ?_)
  simp only [Int.toNat_natCast, hx]
  refine wpAny_bind (wpAny_rule (wpAny_bind (wpAny_setField ho hd (by simp) ?_)))
  show wpAny _ _ (newExc (.type "StopIteration") [] >>= _) _ _ _
  refine stop_raise (show A.in1.handled = none from hh) fun o1 o2 hoo hcc => ?_
  refine wpAny_bind (wpAny_isInstance (T := "StopIteration") (b := true) ⟨_, hoo, hcc⟩ isSubtype_stop ?_)
  exact wpAny_pure (hQ _ _ (((Heap.SameBut.update ..).extBut.push _).push _) (ext_get (b := 0) (d := 0) ho (Obj.isFreed_of_fields (Obj.data_mapFields hd _))))

theorem end_tup {it t : Addr} {i : Nat} {items} {Q : Option Value → Shared → Prop} (hh : A.handled = none)
    (hit : IsTupIter s.heap it t i) (ht : IsTup s.heap t items) (hx : items[i]? = none)
    (hQ : ∀ h' ob, Heap.ExtBut it s.heap h' → h'.get? it = some ob → Q none { s with heap := h' }) : wpAny (model prog w) A (pyNext (.ref it)) Q E s := by
  obtain ⟨o, ho, hc, hd⟩ := id hit
  obtain ⟨ol, hol, _, nl, hdl⟩ := ht
  unfold pyNext
  refine wpAny_bind (wpAny_attempt (wpAny_callSpecial?_slot (name := Str.ofString "__next__") hit.typeIs slot_tupleiter_next
    (wpAny_call_entry slot_tupleiter_next hit.typeIs entry_tupleiter_next ?_ (args_tupleiter_next _))))
  show wpAny _ _ (field (.ref it) 0 >>= _) _ _ s
  refine wpAny_bind (wpAny_field ho hd (x := .ref t) rfl ?_)
  show wpAny _ _ (if (Value.ref t == Value.none) = true then _ else _) _ _ s
  rw [if_neg (show ¬ ((Value.ref t == Value.none) = true) from Bool.false_ne_true)]
  show wpAny _ _ (field (.ref it) 1 >>= _) _ _ s
  refine wpAny_bind (wpAny_field ho hd (x := .int i 0) rfl ?_)
  show wpAny _ _ (seqItems? (.ref t) >>= _) _ _ s
  refine wpAny_bind (wpAny_seqItems hol hdl ?_)
  simp only [Int.toNat_natCast, hx]
  refine wpAny_bind (wpAny_rule (wpAny_bind (wpAny_setField ho hd (by simp) ?_)))
  show wpAny _ _ (newExc (.type "StopIteration") [] >>= _) _ _ _
  refine stop_raise (show A.in1.handled = none from hh) fun o1 o2 hoo hcc => ?_
  refine wpAny_bind (wpAny_isInstance (T := "StopIteration") (b := true) ⟨_, hoo, hcc⟩ isSubtype_stop ?_)
  exact wpAny_pure (hQ _ _ (((Heap.SameBut.update ..).extBut.push _).push _) (ext_get (b := 0) (d := 0) ho (Obj.isFreed_of_fields (Obj.data_mapFields hd _))))

theorem end_range {it : Addr} {x left step : Int} {Q : Option Value → Shared → Prop} (hh : A.handled = none) (hit : IsRangeIter s.heap it x left step) (hleft : left ≤ 0)
    (hQ : ∀ h', (∀ b o, s.heap.get? b = some o → h'.get? b = some o) → Q none { s with heap := h' }) : wpAny (model prog w) A (pyNext (.ref it)) Q E s := by
  have hT : s.TypeIs (.ref it) "range_iterator" := ⟨_, hit, rfl⟩
  unfold pyNext
  refine wpAny_bind (wpAny_attempt (wpAny_callSpecial?_slot (name := Str.ofString "__next__") hT PySem.F.slot_range_iterator_next
    (wpAny_call_entry PySem.F.slot_range_iterator_next hT PySem.F.entry_range_iterator_next ?_ (PySem.F.args_range_iterator_next_1 _))))
  show wpAny _ _ (field (.ref it) 0 >>= _) _ _ s
  refine wpAny_bind (wpAny_field hit rfl (x := rawInt x) rfl ?_)
  show wpAny _ _ (field (.ref it) 1 >>= _) _ _ s
  refine wpAny_bind (wpAny_field hit rfl (x := rawInt left) rfl ?_)
  show wpAny _ _ (field (.ref it) 2 >>= _) _ _ s
  refine wpAny_bind (wpAny_field hit rfl (x := rawInt step) rfl ?_)
  show wpAny _ _ (if left ≤ 0 then _ else _) _ _ s
  rw [if_pos hleft]
  refine wpAny_bind (wpAny_rule ?_)
  refine wpAny_bind ?_
  show wpAny _ _ (newExc (.type "StopIteration") [] >>= _) _ _ _
  refine stop_raise (show A.in1.handled = none from hh) fun o1 o2 hoo hcc => ?_
  refine wpAny_bind (wpAny_isInstance (T := "StopIteration") (b := true) ⟨_, hoo, hcc⟩ isSubtype_stop ?_)
  exact wpAny_pure (hQ _ fun b o e => Heap.get?_push_of_some _ (Heap.get?_push_of_some _ e))
end

section
variable {W : Wd} {c : Cx} {st : St}

/-! making an iterator -/
theorem it_list {k : Nat} {l : List AV} {Q : AV → St → Prop} (hk : st.os[k]? = some (.list l)) (h : Q (.obj st.os.length) { st with os := st.os ++ [itO "list_iterator" k 0] }) : It W c st (.obj k) Q := fun ρ s E v r hv => by
  obtain ⟨a, vs, n, e, h1, h2, h3⟩ := r.list hk hv
  subst e
  refine wpAny_pyIter_list (items := List.toArray vs) ⟨_, h2, rfl, n, rfl⟩ ?_
  refine ⟨[s.heap.objs.size], .obj st.os.length, _, r.alloc (o := itO "list_iterator" k 0) ⟨a, h1, rfl, rfl⟩ rfl, ⟨_, ?_, rfl⟩, h⟩
  rw [← r.objs.len]; simp
theorem it_tup {k : Nat} {l : List AV} {Q : AV → St → Prop} (hk : st.os[k]? = some (.tup l)) (h : Q (.obj st.os.length) { st with os := st.os ++ [itO "tuple_iterator" k 0] }) : It W c st (.obj k) Q := fun ρ s E v r hv => by
  obtain ⟨a, vs, n, e, h1, h2, h3⟩ := r.tup hk hv
  subst e
  refine iter_tuple (items := List.toArray vs) ⟨_, h2, rfl, n, rfl⟩ ?_
  refine ⟨[s.heap.objs.size], .obj st.os.length, _, r.alloc (o := itO "tuple_iterator" k 0) ⟨a, h1, rfl, rfl⟩ rfl, ⟨_, ?_, rfl⟩, h⟩
  rw [← r.objs.len]; simp
theorem it_listit {k j i : Nat} {Q : AV → St → Prop} (hk : st.os[k]? = some (itO "list_iterator" j i)) (h : Q (.obj k) st) : It W c st (.obj k) Q := fun ρ s E v r hv => by
  obtain ⟨a, ob, e, h1, h2, b, h3, h4, h5⟩ := r.at_ hk hv
  subst e
  exact wpAny_pyIter_listiter (l := b) (i := i) ⟨ob, h2, h4, h5⟩ (Post.here h r hv)
theorem it_tupit {k j i : Nat} {Q : AV → St → Prop} (hk : st.os[k]? = some (itO "tuple_iterator" j i)) (h : Q (.obj k) st) : It W c st (.obj k) Q := fun ρ s E v r hv => by
  obtain ⟨a, ob, e, h1, h2, b, h3, h4, h5⟩ := r.at_ hk hv
  subst e
  exact wpAny_pyIter_tupleiter (t := b) (i := i) ⟨ob, h2, h4, h5⟩ (Post.here h r hv)
theorem it_rangeit {k : Nat} {x left step : Int} {Q : AV → St → Prop} (hk : st.os[k]? = some (rgO x left step)) (h : Q (.obj k) st) : It W c st (.obj k) Q := fun ρ s E v r hv => by
  obtain ⟨a, ob, e, h1, h2, h3⟩ := r.at_ hk hv
  subst e
  cases h3
  exact wpAny_pyIter_rangeiter h2 (Post.here h r hv)
theorem it_range {k : Nat} {x y z : Int} {Q : AV → St → Prop} (hk : st.os[k]? = some (rangeO x y z)) (hs : Builtin.Range.small x y z = true)
    (h : Q (.obj st.os.length) { st with os := st.os ++ [rgO x (Builtin.Range.rangeSize x y z) z] }) : It W c st (.obj k) Q := fun ρ s E v r hv => by
  obtain ⟨a, ob, e, h1, h2, t, u, q, h3⟩ := r.at_ hk hv
  subst e; subst h3
  refine wpAny_pyIter_range h2 hs ?_
  refine ⟨[s.heap.objs.size], .obj st.os.length, _, r.alloc (o := rgO x (Builtin.Range.rangeSize x y z) z) rfl rfl, ⟨_, ?_, rfl⟩, h⟩
  rw [← r.objs.len]; simp

/-! the next one -/
theorem nx_list {k j i : Nat} {l : List AV} {Q : Option AV → St → Prop} (hk : st.os[k]? = some (itO "list_iterator" j i)) (hl : st.os[j]? = some (.list l))
    (h1 : ∀ a, l[i]? = some a → Q (some a) { st with os := st.os.set k (itO "list_iterator" j (i + 1)) }) (h0 : l[i]? = none → Q none { st with os := st.os.set k anyO }) : Nx W c st (.obj k) Q := fun ρ s E v r hv => by
  obtain ⟨a, ob, e, e1, e2, b, e3, e4, e5⟩ := r.at_ hk hv
  subst e
  obtain ⟨a', vs, n, e6, e7, e8, e9⟩ := r.list hl ⟨b, e3, rfl⟩
  cases e6
  have hL : s.heap.IsList b (List.toArray vs) := ⟨_, e8, rfl, n, rfl⟩
  cases q : l[i]? with
  | some x =>
    obtain ⟨u, hu, hr⟩ := e9.get q
    refine wpAny_pyNext_list_item (x := u) ⟨ob, e2, e4, e5⟩ hL (by simpa using hu) fun h' hi hs => ?_
    obtain ⟨o', ho, hc, hd⟩ := hi
    exact ⟨[], some x, _, by rw [List.append_nil]; exact r.alter (o' := itO "list_iterator" j (i + 1)) e1 hs.extBut ho ⟨b, e3, hc, hd⟩, ⟨u, rfl, by rw [List.append_nil]; exact hr⟩, h1 x q⟩
  | none =>
    refine end_list r.ok.hd ⟨ob, e2, e4, e5⟩ hL (by have := e9.length; simp at q ⊢; lsm_bools) fun h' o' he ho => ?_
    exact ⟨[], none, _, by rw [List.append_nil]; exact r.alter (o' := anyO) e1 he ho trivial, rfl, h0 q⟩
theorem nx_tup {k j i : Nat} {l : List AV} {Q : Option AV → St → Prop} (hk : st.os[k]? = some (itO "tuple_iterator" j i)) (hl : st.os[j]? = some (.tup l))
    (h1 : ∀ a, l[i]? = some a → Q (some a) { st with os := st.os.set k (itO "tuple_iterator" j (i + 1)) }) (h0 : l[i]? = none → Q none { st with os := st.os.set k anyO }) : Nx W c st (.obj k) Q := fun ρ s E v r hv => by
  obtain ⟨a, ob, e, e1, e2, b, e3, e4, e5⟩ := r.at_ hk hv
  subst e
  obtain ⟨a', vs, n, e6, e7, e8, e9⟩ := r.tup hl ⟨b, e3, rfl⟩
  cases e6
  have hL : IsTup s.heap b (List.toArray vs) := ⟨_, e8, rfl, n, rfl⟩
  cases q : l[i]? with
  | some x =>
    obtain ⟨u, hu, hr⟩ := e9.get q
    refine next_tuple_item (x := u) ⟨ob, e2, e4, e5⟩ hL (by simpa using hu) fun h' hi hs => ?_
    obtain ⟨o', ho, hc, hd⟩ := hi
    exact ⟨[], some x, _, by rw [List.append_nil]; exact r.alter (o' := itO "tuple_iterator" j (i + 1)) e1 hs.extBut ho ⟨b, e3, hc, hd⟩, ⟨u, rfl, by rw [List.append_nil]; exact hr⟩, h1 x q⟩
  | none =>
    refine end_tup r.ok.hd ⟨ob, e2, e4, e5⟩ hL (by have := e9.length; simp at q ⊢; lsm_bools) fun h' o' he ho => ?_
    exact ⟨[], none, _, by rw [List.append_nil]; exact r.alter (o' := anyO) e1 he ho trivial, rfl, h0 q⟩
theorem nx_range {k : Nat} {x left : Int} {Q : Option AV → St → Prop} (hk : st.os[k]? = some (rgO x left 1))
    (h1 : 0 < left → Q (some (.int x)) { st with os := st.os.set k (rgO (x + 1) (left - 1) 1) }) (h0 : left ≤ 0 → Q none st) : Nx W c st (.obj k) Q := fun ρ s E v r hv => by
  obtain ⟨a, ob, e, e1, e2, e3⟩ := r.at_ hk hv
  subst e; cases e3
  by_cases q : 0 < left
  · refine wpAny_pyNext_range_item e2 q fun h' hi hs => ?_
    exact ⟨[], some (.int x), _, by rw [List.append_nil]; exact r.alter (o' := rgO (x + 1) (left - 1) 1) e1 hs.extBut hi rfl, ⟨_, rfl, ⟨_, rfl⟩⟩, h1 q⟩
  · refine end_range r.ok.hd e2 (by lsm_bools) fun h' hs => ?_
    exact ⟨[], none, _, by rw [List.append_nil]; exact r.grow hs, rfl, h0 (by lsm_bools)⟩

/-! assigning -/
theorem as_Name {x : Str} {pos : Pos} {a : AV} {Q : Unit → St → Prop} (hk : c.scope.names.lookup x = some .local) (h : Q () { st with m := putM x a st.m }) : Op1 W c UR st a (assign (.Name x pos) c.env) Q := fun ρ s E v r hv =>
  wpAny_assign_Name (wp_storeLocal r hv hk fun s' r' => ⟨[], (), _, by rw [List.append_nil]; exact r', trivial, h⟩)
theorem as_NameC {x : Str} {pos : Pos} {k : Nat} {o : Option AV} {a : AV} {Q : Unit → St → Prop} (hk : c.scope.names.lookup x = some .cell) (hc : c.cl.lookup x = some k) (ho : st.os[k]? = some (.cell o))
    (h : Q () { st with os := st.os.set k (.cell (some a)) }) : Op1 W c UR st a (assign (.Name x pos) c.env) Q := fun ρ s E v r hv =>
  wpAny_assign_Name (wp_storeCell r hv hc ho hk fun s' r' => ⟨[], (), _, by rw [List.append_nil]; exact r', trivial, h⟩)

/-! for -/
noncomputable abbrev LbQ (I : Nat → Shared → Prop) (R0 : Flow → Shared → Prop) (n : Nat) (f : Flow) (s₃ : Shared) : Prop := match f with
  | .next | .cont => ∃ m, m < n ∧ I m s₃
  | .brk => R0 .next s₃
  | .ret v => R0 (.ret v) s₃
noncomputable abbrev LnQ (M : Model) (A : Around) (target : Expr) (it : Value) (body orelse : List Stmt) (env : Env) (I : Nat → Shared → Prop) (R0 : Flow → Shared → Prop) (n : Nat) (E : Value → Shared → Prop) (r : Option Value) (s₁ : Shared) : Prop := match r with
  | none => wpAny M A (execs orelse env) R0 E s₁
  | some v => wpAny M A (letOwnedTupleGo target it v) (fun _ s₁' => wpAny M A (assign target env v) (fun _ s₂ => wpAny M A (execs body env) (LbQ I R0 n) E s₂) E s₁') E s₁
/-- a for loop, whatever the ends by exceptions are -/
theorem loop_any {prog : Program} {w : World} {A : Around} {s : Shared} {R : Result → Shared → Prop} {target : Expr} {it : Value} {body orelse : List Stmt} {env : Env} (I : Nat → Shared → Prop) (R0 : Flow → Shared → Prop) (hR : ∀ f s, R0 f s → R (.ok f) s)
    (turn : ∀ n s, I n s → ∀ E, wpAny (model prog w) A (pyNext it) (LnQ (model prog w) A target it body orelse env I R0 n E) E s) (n : Nat) (h : I n s) : codeAny (model prog w) A (.forLoop target it body orelse env) R s := by
  refine codeAny_forLoop_any I (fun n s hI => wpAny_mono (turn n s hI _) (fun r s₁ p => ?_) fun _ _ x => x) n h
  cases r with
  | none => exact wpAny_mono p (fun f s q => hR f s q) fun _ _ x => x
  | some v =>
    refine wpAny_mono p (fun _ s1 p => wpAny_mono p (fun _ s2 p => wpAny_mono p (fun f s3 p => ?_) fun _ _ x => x) fun _ _ x => x) fun _ _ x => x
    cases f with
    | next => exact p
    | cont => exact p
    | brk => exact hR _ _ p
    | ret v => exact hR _ _ p
noncomputable abbrev NxQ (W : Wd) (c : Cx) (target : Expr) (body orelse : List Stmt) (n : Nat) (I : Nat → St → Prop) (Q : AF → St → Prop) (o : Option AV) (st3 : St) : Prop := match o with
  | none => Ex W c st3 (execs orelse c.env) Q
  | some v => Op1 W c UR st3 v (assign target c.env) (fun _ st4 => Ex W c st4 (execs body c.env) (WhQ n I Q))
theorem ex_For {target iter : Expr} {body orelse : List Stmt} {pos : Pos} {Q : AF → St → Prop} (hs : ∀ x, foldedSetIterable iter c.env x = pure x) (ht : ∀ it v, letOwnedTupleGo target it v = pure ())
    (h : Ev W c st (eval iter c.env) (fun a st1 => It W c st1 a (fun it st2 => ∃ (I : Nat → St → Prop) (n : Nat), I n st2 ∧ ∀ n st, I n st → Nx W c st it (NxQ W c target body orelse n I Q)))) :
    Ex W c st (exec (.For target iter body orelse pos) c.env) Q := fun ρ s E r => by
  refine wpAny_For (wp_on h r fun ρ1 a st1 v s1 r1 ra h1 => wpAny_mono (h1 _ s1 E v r1 ra) (fun it s2 p => ?_) fun _ _ x => x) hs
  obtain ⟨ρ2, ita, st2, r2, rit, I, n, hI, turn⟩ := p
  rw [List.append_assoc] at r2 rit
  refine loop_any (LoI W c (ρ ++ (ρ1 ++ ρ2)) I) (Post W c AF.rel ρ Q) (fun _ _ p => p) (fun n s' ⟨ρ', st', r', hI⟩ E' => ?_) n ⟨[], st2, by rw [List.append_nil]; exact r2, hI⟩
  refine wpAny_mono (turn n st' hI _ s' _ it r' rit.mono) (fun o s3 p => ?_) fun _ _ x => x
  obtain ⟨ρ3, oa, st3, r3, ro, h3⟩ := p
  cases oa with
  | none =>
    cases ro
    have e4 : ρ ++ (ρ1 ++ ρ2) ++ ρ' ++ ρ3 = ρ ++ (ρ1 ++ ρ2 ++ ρ' ++ ρ3) := by simp only [List.append_assoc]
    rw [e4] at r3
    exact wp_go h3 r3
  | some va =>
    obtain ⟨u, e, ru⟩ := ro
    subst e
    show wpAny _ _ (letOwnedTupleGo target it u) _ _ _
    rw [ht]
    refine wpAny_pure (wpAny_mono (h3 _ s3 _ u r3 ru) (fun _ s4 p => ?_) fun _ _ x => x)
    obtain ⟨ρ4, _, st4, r4, _, h4⟩ := p
    refine wp_on h4 r4 fun ρ5 f st5 fl s5 r5 rf h5 => ?_
    have e5 : ρ ++ (ρ1 ++ ρ2) ++ ρ' ++ ρ3 ++ ρ4 ++ ρ5 = ρ ++ (ρ1 ++ ρ2) ++ (ρ' ++ ρ3 ++ ρ4 ++ ρ5) := by simp only [List.append_assoc]
    have e6 : ρ ++ (ρ1 ++ ρ2) ++ ρ' ++ ρ3 ++ ρ4 ++ ρ5 = ρ ++ (ρ1 ++ ρ2 ++ ρ' ++ ρ3 ++ ρ4 ++ ρ5) := by simp only [List.append_assoc]
    cases f with
    | next => cases rf; obtain ⟨m, hm, hI'⟩ := h5; exact ⟨m, hm, _, st5, by rw [e5] at r5; exact r5, hI'⟩
    | cont => cases rf; obtain ⟨m, hm, hI'⟩ := h5; exact ⟨m, hm, _, st5, by rw [e5] at r5; exact r5, hI'⟩
    | brk => cases rf; rw [e6] at r5; exact Post.on h5 r5 rfl
    | ret a => obtain ⟨u, e, hu⟩ := rf; subst e; rw [e6] at r5 hu; exact Post.on h5 r5 ⟨u, rfl, hu⟩
end
-- VJ
/-- an end by another name -/
theorem code_gen {M : Model} {A : Around} {c : Code} {R : Result → Shared → Prop} {s : Shared} (h : ∀ P, (∀ r s', R r s' → P r s') → codeAny M A c P s) : codeAny M A c R s := h R fun _ _ x => x
theorem wp_gen {M : Model} {A : Around} {α : Type} {t : Sem α} {Q : α → Shared → Prop} {E : Value → Shared → Prop} {s : Shared} (h : ∀ Q' E', (∀ v s', Q v s' → Q' v s') → (∀ e s', E e s' → E' e s') → wpAny M A t Q' E' s) : wpAny M A t Q E s := h Q E (fun _ _ x => x) fun _ _ x => x

/-! closures and cells -/
noncomputable def newCl : List (Str × NameKind) → Nat → List (Str × Nat) → List (Str × Nat)
  | [], _, acc => acc
  | (x, k) :: r, n, acc => if k == .cell then newCl r (n + 1) ((x, n) :: acc) else newCl r n acc
noncomputable def newCells : List (Str × NameKind) → List AO
  | [] => []
  | (x, k) :: r => if k == .cell then .cell none :: newCells r else newCells r

theorem closure_go {env : Env} {cs0 : List (Str × Addr)} (hcs : env.cells = cs0) : ∀ (names : List (Str × NameKind)) (acc : List (Str × Addr)),
    (∀ p ∈ names, p.2 = .free → ∃ a, cs0.lookup p.1 = some a) → (∀ p ∈ acc, cs0.lookup p.1 = some p.2) →
    ∃ cl, (∀ p ∈ cl, cs0.lookup p.1 = some p.2) ∧ (∀ p ∈ acc, p ∈ cl) ∧ (∀ p ∈ names, p.2 = .free → ∃ a, (p.1, a) ∈ cl) ∧
      (forIn names acc fun (x : Str × NameKind) cs => if (x.2 == NameKind.free) = true then (do let a ← cellOf env x.1; pure (ForInStep.yield ((x.1, a) :: cs))) else pure (ForInStep.yield cs) : Sem (List (Str × Addr))) = pure cl := by
  intro names
  induction names with
  | nil => exact fun acc _ h => ⟨acc, h, fun _ x => x, (fun _ h => nomatch h), rfl⟩
  | cons q r ih =>
    obtain ⟨x, k⟩ := q
    intro acc hf h
    by_cases hk : k = .free
    · subst hk
      obtain ⟨a, ha⟩ := hf (x, .free) List.mem_cons_self rfl
      obtain ⟨cl, h1, h2, h3, h4⟩ := ih ((x, a) :: acc) (fun p hp => hf p (List.mem_cons_of_mem _ hp)) (fun p hp => by
        rcases List.mem_cons.mp hp with rfl | hp
        · exact ha
        · exact h p hp)
      refine ⟨cl, h1, fun p hp => h2 p (List.mem_cons_of_mem _ hp), fun p hp e => ?_, ?_⟩
      · rcases List.mem_cons.mp hp with rfl | hp
        · exact ⟨a, h2 _ List.mem_cons_self⟩
        · exact h3 p hp e
      · have hco : cellOf env x = pure a := by
          unfold cellOf
          rw [hcs, ha]
        rw [List.forIn_cons]
        simp only [beq_self_eq_true, if_true, hco, pure_bind]
        exact h4
    · obtain ⟨cl, h1, h2, h3, h4⟩ := ih acc (fun p hp => hf p (List.mem_cons_of_mem _ hp)) h
      refine ⟨cl, h1, h2, fun p hp e => ?_, ?_⟩
      · rcases List.mem_cons.mp hp with rfl | hp
        · exact absurd e hk
        · exact h3 p hp e
      · have hb : (k == NameKind.free) = false := by simpa using hk
        rw [List.forIn_cons]
        simp only [hb, Bool.false_eq_true, if_false, pure_bind]
        exact h4

theorem lookup_mem_val {cs0 cl : List (Str × Addr)} (h : ∀ p ∈ cl, cs0.lookup p.1 = some p.2) {x : Str} {a : Addr} (hm : (x, a) ∈ cl) : cl.lookup x = some a := by
  have e := h _ hm
  cases q : cl.lookup x with
  | none =>
    rw [List.lookup_eq_none_iff] at q
    have := q _ hm
    simp at this
  | some b =>
    have hb := h _ (mem_of_lookup q)
    rw [show (x, b).1 = x from rfl] at hb
    rw [show (x, a).1 = x from rfl] at e
    rw [e] at hb
    exact congrArg some (Option.some.inj hb).symm

theorem closure_ok {env : Env} {scope : Scope} (hf : ∀ p ∈ scope.names, p.2 = .free → ∃ a, env.cells.lookup p.1 = some a) :
    ∃ cl, closureFor scope env = pure cl ∧ ∀ p ∈ scope.names, p.2 = .free → cl.lookup p.1 = env.cells.lookup p.1 := by
  obtain ⟨cl, h1, _, h3, h4⟩ := closure_go (env := env) rfl scope.names [] hf (fun _ h => nomatch h)
  refine ⟨cl, ?_, fun p hp e => ?_⟩
  · unfold closureFor
    refine Eq.trans ?_ (congrArg (fun t => t >>= pure) h4 |>.trans (by simp))
    simp only [bind_pure]
  · obtain ⟨a, ha⟩ := h3 p hp e
    rw [lookup_mem_val h1 ha]; exact (h1 _ ha).symm

section
variable {W : Wd} {c : Cx} {ρ : List Addr} {st : St} {s : Shared}

theorem wp_cells {M : Model} {A : Around} {E : Value → Shared → Prop} {R : List (Str × Addr) → Shared → Prop} (c0 : Cx) : ∀ (names : List (Str × NameKind)) (ρ : List Addr) (st : St) (s : Shared) (cells : List (Str × Addr)) (acl : List (Str × Nat)),
    Rp W { c0 with cells := cells, cl := acl } ρ st s →
    (∀ cells' s' ρ', Rp W { c0 with cells := cells', cl := newCl names st.os.length acl } (ρ ++ ρ') { st with os := st.os ++ newCells names } s' → R cells' s') →
    wpAny M A (forIn names cells fun (x : Str × NameKind) cs => if (x.2 == NameKind.cell) = true then (do let a ← alloc { cls := .type "cell", data := .cell none }; pure (ForInStep.yield ((x.1, a) :: cs))) else pure (ForInStep.yield cs)) R E s := by
  intro names
  induction names with
  | nil =>
    intro ρ st s cells acl r h
    refine wpAny_pure (h cells s [] ?_)
    simp only [newCl, newCells, List.append_nil]
    exact r
  | cons p names ih =>
    obtain ⟨x, k⟩ := p
    intro ρ st s cells acl r h
    rw [List.forIn_cons]
    by_cases hk : k = .cell
    · subst hk
      simp only [beq_self_eq_true, if_true]
      refine wpAny_bind (wpAny_bind (wpAny_alloc (wpAny_pure ?_)))
      refine ih (ρ ++ [s.heap.objs.size]) { st with os := st.os ++ [.cell none] } _ ((x, s.heap.objs.size) :: cells) ((x, st.os.length) :: acl) ?_ ?_
      · have r1 := r.alloc (o := .cell none) (ob := { cls := .type "cell", data := .cell none }) rfl rfl
        refine ⟨⟨r1.ok.X, r1.ok.T, r1.ok.kind, r1.ok.dep, r1.ok.un, r1.ok.hd⟩, r1.ns, r1.keep, r1.above, r1.objs, r1.fresh, r1.nodup, fun y j hy => ?_, r1.gens, r1.os⟩
        have hy : List.lookup y ((x, st.os.length) :: acl) = some j := hy
        show ∃ a, _ ∧ List.lookup y ((x, s.heap.objs.size) :: cells) = some a
        cases q : y == x with
        | true =>
          simp only [List.lookup_cons, q] at hy ⊢
          cases hy
          exact ⟨_, by rw [← r.objs.len]; simp, rfl⟩
        | false =>
          simp only [List.lookup_cons, q] at hy ⊢
          exact r1.cells y j hy
      · intro cells' s' ρ' r'
        refine h cells' s' ([s.heap.objs.size] ++ ρ') ?_
        simp only [newCl, newCells, beq_self_eq_true, if_true]
        rw [← List.append_assoc]
        simp only [List.length_append, List.length_cons, List.length_nil, Nat.zero_add, List.append_assoc, List.cons_append, List.nil_append] at r' ⊢
        exact r'
    · have hb : (k == NameKind.cell) = false := by simpa using hk
      simp only [hb, Bool.false_eq_true, if_false]
      refine wpAny_bind (wpAny_pure ?_)
      refine ih ρ st s cells acl r fun cells' s' ρ' r' => h cells' s' ρ' ?_
      simp only [newCl, newCells, hb, Bool.false_eq_true, if_false]
      exact r'

theorem kind_relabel {scope : Scope} {env : Env} (h : scope.kind = .function) : (relabel scope env).kind = .function := h

/-- an inlined body's own context -/
structure Inl (c c' : Cx) (scope : Scope) (cl : List (Str × Nat)) : Prop where
  scope : c'.scope = relabel scope c.env
  cl : c'.cl = cl
  room : c'.room = c.room

theorem wp_compEnv {E : Value → Shared → Prop} {R : Env → Shared → Prop} {scope : Scope} {cl : List (Str × Addr)} {fcl : List (Str × Nat)} (r : Rp W c ρ st s) (hk : scope.kind = .function)
    (hcl : ∀ p ∈ scope.names, p.2 = .free → cl.lookup p.1 = c.cells.lookup p.1) (hf : ∀ x k, fcl.lookup x = some k → (x, NameKind.free) ∈ scope.names ∧ c.cl.lookup x = some k)
    (h : ∀ c' s' ρ', Inl c c' scope (newCl scope.names st.os.length fcl) → c'.g = hideAll s.heap ρ → c'.os0 = c.os0 → c'.A = c.A →
      Rp W c' (ρ ++ ρ') ⟨[], st.os ++ newCells scope.names, st.gn⟩ s' → ∀ cenv : Env, { cenv with scope := relabel scope c.env } = c'.env → cenv.locals = c'.L → R cenv s') :
    wpAny W.M c.A (newFunctionEnv scope mainGlobals cl [] c.qual none .none (some c.env)) R E s := by
  simp only [newFunctionEnv, Option.isSome_some, if_true]
  refine wpAny_bind (wpAny_alloc ?_)
  let c0 : Cx := { A := c.A, g := hideAll s.heap ρ, room := c.room, L := s.heap.objs.size, scope := relabel scope c.env, cells := cl, qual := c.qual, func := none, code := c.code, frame := c.frame, cl := fcl, os0 := c.os0 }
  have r0 : Rp W { c0 with cells := cl, cl := fcl } ρ ⟨[], st.os, st.gn⟩ { s with heap := s.heap.push { cls := .type "dict", data := .dict #[] } } := by
    obtain ⟨mg, mb, T⟩ := r.ok.T
    refine ⟨⟨r.ok.X.keeps r.keepH, ⟨mg, mb, T.keeps r.keepH⟩, hk, r.ok.dep, r.ok.un, r.ok.hd⟩, ⟨_, Heap.Ns.new s.heap (.type "dict"), fun x a e => (by cases e)⟩, fun b o e => Heap.get?_push_of_some _ (of_hideAll _ e), Nat.le_of_eq (hideAll_size _ _), ⟨r.objs.len, fun k o e => ?_⟩, fun a ha => ⟨Nat.ne_of_lt (r.lt ha), hideAll_none _ ha⟩, r.nodup, fun x k e => ?_, r.gens, r.os⟩
    · obtain ⟨a, ob, e1, e2, e3⟩ := r.objs.at_ k o e
      exact ⟨a, ob, e1, Heap.get?_push_of_some _ e2, e3⟩
    · obtain ⟨h1, h2⟩ := hf x k e
      obtain ⟨a, h3, h4⟩ := r.cells x k h2
      exact ⟨a, h3, (hcl _ h1 rfl).trans h4⟩
  refine wpAny_bind ?_
  refine wpAny_mono (wp_cells (E := E) (R := fun cells' s' => ∃ ρ', Rp W { c0 with cells := cells', cl := newCl scope.names st.os.length fcl } (ρ ++ ρ') ⟨[], st.os ++ newCells scope.names, st.gn⟩ s') c0 scope.names ρ _ _ cl fcl r0 fun cells' s' ρ' r' => ⟨ρ', r'⟩) (fun cells' s' ⟨ρ', r'⟩ => ?_) fun _ _ x => x
  simp only [List.forIn_nil, pure_bind]
  exact wpAny_pure (h { c0 with cells := cells', cl := newCl scope.names st.os.length fcl } s' ρ' ⟨rfl, rfl, rfl⟩ rfl rfl rfl r' _ rfl rfl)
end

/-- the tests of a comprehension -/
noncomputable def Tsts (W : Wd) (c : Cx) (st : St) (ifs : List Expr) (Q : Bool → St → Prop) : Prop :=
  EvK W c BR st (forIn ifs true fun t r => if r = true then do let ok ← isTrue t c.env (eval t c.env); pure (ForInStep.yield ok) else pure (ForInStep.yield r)) Q
section
variable {W : Wd} {c : Cx} {st : St}
theorem tsts_nil {Q : Bool → St → Prop} (h : Q true st) : Tsts W c st [] Q := fun ρ s E r => wpAny_tests_nil (Post.here h r rfl)
theorem tsts_one {t : Expr} {Q : Bool → St → Prop} (h : Tt W c st (isTrue t c.env (eval t c.env)) Q) : Tsts W c st [t] Q := fun ρ s E r => wpAny_tests_one (h ρ s E r)

theorem Rp.leaveC {c' : Cx} {ρ ρ' : List Addr} {st st' : St} {s s' : Shared} (r : Rp W c ρ st s) (r' : Rp W c' (ρ ++ ρ') st' s') (hg : c'.g = hideAll s.heap ρ) (ho : c'.os0 = c.os0) {h' : Heap} (hs : Heap.SameBut c'.L s'.heap h') :
    Rp W c (ρ ++ ρ') { m := st.m, os := st'.os, gn := st'.gn } { s' with heap := h' } := by
  have rb := r.leave r' hg ho
  have hn : ∀ a, s.heap.objs.size ≤ a → s.heap.get? a = none := fun a ha => Heap.get?_none_of_le ha
  have hL : s.heap.objs.size ≤ c'.L := by have := r'.above; rw [hg, hideAll_size] at this; exact this
  refine rb.side hs ?_ ?_ ?_
  · intro e
    obtain ⟨M, hM, _⟩ := r.ns
    have := hM.lt
    rw [← e] at this; exact absurd this (Nat.not_lt.mpr hL)
  · intro hm; exact (r'.fresh _ hm).1 rfl
  · cases q : c.g.get? c'.L with
    | none => rfl
    | some o => have := r.keep _ _ q; rw [hn _ hL] at this; cases this

/-- behind an element; behind the tests; behind a turn -/
noncomputable abbrev CgE (st2 : St) (I : Nat → St → Prop) (n : Nat) (x : AV) (st6 : St) : Prop := ∃ l, st6.os[st2.os.length]? = some (.list l) ∧ l.length ≤ 100000 ∧ ∃ m, m < n ∧ I m { st6 with os := st6.os.set st2.os.length (.list (l ++ [x])) }
noncomputable abbrev CgT (W : Wd) (c' : Cx) (elt : Expr) (st2 : St) (I : Nat → St → Prop) (n : Nat) (b : Bool) (st5 : St) : Prop := (b = true → Ev W c' st5 (eval elt c'.env) (CgE st2 I n)) ∧ (b = false → ∃ m, m < n ∧ I m st5)
noncomputable abbrev CgQ (W : Wd) (c' : Cx) (target elt : Expr) (ifs : List Expr) (st2 : St) (I : Nat → St → Prop) (n : Nat) (Q : AV → St → Prop) (o : Option AV) (st3 : St) : Prop := match o with
  | none => Q (.obj st2.os.length) ⟨st2.m, st3.os, st3.gn⟩
  | some v => Op1 W c' UR st3 v (assign target c'.env) (fun _ st4 => Tsts W c' st4 ifs (CgT W c' elt st2 I n))
/-- what is left of a list comprehension when its iterator stands -/
noncomputable def CompGo (W : Wd) (c : Cx) (target elt : Expr) (ifs : List Expr) (scope : Scope) (fcl : List (Str × Nat)) (Q : AV → St → Prop) (it : AV) (st2 : St) : Prop :=
  ∃ kit, it = .obj kit ∧ ∀ c', Inl c c' scope (newCl scope.names (st2.os.length + 1) fcl) →
      ∃ (I : Nat → St → Prop) (n : Nat), It W c' ⟨[], st2.os ++ .list [] :: newCells scope.names, st2.gn⟩ (.obj kit) (fun it' st => it' = .obj kit ∧ I n st) ∧
       I n ⟨[], st2.os ++ .list [] :: newCells scope.names, st2.gn⟩ ∧
       ∀ n st, I n st → Nx W c' st (.obj kit) (CgQ W c' target elt ifs st2 I n Q)

theorem comp_core {elt target iter : Expr} {ifs : List Expr} {scope : Scope} {pos pos2 : Pos} {Q : AV → St → Prop} (fcl : List (Str × Nat)) {ρ : List Addr} {s : Shared} {E : Value → Shared → Prop} {use : Option (Value → Sem Unit)} {R : Value → Shared → Prop}
    (hs : ∀ x, foldedSetIterable iter c.env x = pure x) (ht : ∀ it v, letOwnedTupleGo target it v = pure ()) (hk : scope.kind = .function)
    (hnames : ∀ y ∈ scope.names, y.2 = .local → scope.names.lookup y.1 = some .local) (hfree : ∀ p ∈ scope.names, p.2 = .free → ∃ k, c.cl.lookup p.1 = some k)
    (hf : ∀ x k, fcl.lookup x = some k → (x, NameKind.free) ∈ scope.names ∧ c.cl.lookup x = some k)
    (fin : ∀ (ρ' : List Addr) (st' : St) (s' : Shared) (a : AV) (v : Value) (C : Addr) (M : Str → Option Value), Rp W c (ρ ++ ρ') st' s' → a.rel (ρ ++ ρ') v → Q a st' → s'.heap.Ns C M → C ≠ c.L → C ∉ ρ ++ ρ' → c.g.get? C = none →
      compPost W.M c.A E use R v C (.ok .next) s') (r : Rp W c ρ st s)
    (h : Ev W c st (eval iter c.env) (fun a st1 => It W c st1 a (CompGo W c target elt ifs scope fcl Q))) :
    wpAny W.M c.A (comprehension (.ListComp elt [⟨target, iter, ifs, 0⟩] scope pos) scope c.env pos2 (newList []) false (eval iter c.env) use) R E s := by
  have hclos : ∃ cl, closureFor scope c.env = pure cl ∧ ∀ p ∈ scope.names, p.2 = .free → cl.lookup p.1 = c.env.cells.lookup p.1 := closure_ok fun p hp e => by
    obtain ⟨k, hk⟩ := hfree p hp e
    obtain ⟨a, _, h2⟩ := r.cells _ _ hk
    exact ⟨a, h2⟩
  obtain ⟨cl, hcl, hlk⟩ := hclos
  refine wpAny_comprehension_free (use := use) rfl hs hcl hk hnames (wp_on h r fun ρ1 a st1 v s1 r1 ra h1 => wpAny_mono (h1 _ s1 E v r1 ra) (fun itv s2 p => ?_) fun _ _ x => x)
  obtain ⟨ρ2, ita, st2, r2, rit, kit, e, h2⟩ := p
  subst e
  refine wpAny_newObj_type ?_
  have r3 := r2.alloc (o := .list []) (ob := { cls := .type "list", dict := none, data := .seq ([] : List Value).toArray }) ⟨[], _, rfl, rfl⟩ rfl
  have rit3 : AV.rel (ρ ++ ρ1 ++ ρ2 ++ [s2.heap.objs.size]) (.obj kit) itv := rit.mono
  have racc3 : AV.rel (ρ ++ ρ1 ++ ρ2 ++ [s2.heap.objs.size]) (.obj st2.os.length) (.ref s2.heap.objs.size) := ⟨_, by rw [← r2.objs.len]; simp, rfl⟩
  obtain ⟨σ, hσ⟩ : ∃ σ, ρ ++ ρ1 ++ ρ2 ++ [s2.heap.objs.size] = ρ ++ σ := ⟨ρ1 ++ ρ2 ++ [s2.heap.objs.size], by simp only [List.append_assoc]⟩
  rw [hσ] at r3 rit3 racc3
  refine wp_compEnv (fcl := fcl) r3 hk hlk hf fun c' s4 ρ4 hin hg ho hA r4 cenv hc hLc => ?_
  have el : ({ st2 with os := st2.os ++ [.list []] } : St).os.length = st2.os.length + 1 := by simp
  rw [el] at hin
  have eo : st2.os ++ [AO.list []] ++ newCells scope.names = st2.os ++ .list [] :: newCells scope.names := by simp
  have r4' : Rp W c' (ρ ++ σ ++ ρ4) ⟨[], st2.os ++ .list [] :: newCells scope.names, st2.gn⟩ s4 := by rw [← eo]; exact r4
  obtain ⟨I, n, h0, hI0, turn⟩ := h2 c' hin
  rw [hc, hLc, show c.A = c'.A from hA.symm]
  refine code_gen fun P hP => ?_
  have loop : ∀ s5 (n0 : Nat) ρ0 st0, Rp W c' (ρ ++ σ ++ ρ0) st0 s5 → I n0 st0 →
      codeAny W.M c'.A (.compLoop (.ListComp elt [⟨target, iter, ifs, 0⟩] scope pos) 0 itv (.ref s2.heap.objs.size) c'.env) P s5 := by
    intro s5 n0 ρ0 st0 r5 hI
    refine codeAny_compLoop_tests (LoI W c' (ρ ++ σ) I) (fun n s' ⟨ρ', st', r', hI⟩ => ?_) n0 ⟨ρ0, st0, r5, hI⟩ (fun v => ht _ v)
    refine wpAny_mono (turn n st' hI _ s' _ itv r' rit3.mono) (fun o s6 p => ?_) fun _ _ x => x
    obtain ⟨ρ6, oa, st6, r6, ro, h6⟩ := p
    rw [List.append_assoc (ρ ++ σ)] at r6 ro
    generalize ρ' ++ ρ6 = ρ6 at r6 ro
    cases oa with
    | none =>
      cases ro
      obtain ⟨M, hM, _⟩ := r6.ns
      have rb := r3.leave r6 hg ho
      have ra2 : AV.rel (ρ ++ σ ++ ρ6) (.obj st2.os.length) (.ref s2.heap.objs.size) := racc3.mono
      have hsz : s2.heap.objs.size + 1 ≤ c'.L := by have := r6.above; rw [hg, hideAll_size, Heap.size_push] at this; exact this
      have hn : ∀ a, s2.heap.objs.size + 1 ≤ a → (s2.heap.push { cls := .type "list", dict := none, data := .seq ([] : List Value).toArray }).get? a = none := fun a ha => Heap.get?_none_of_le (by rw [Heap.size_push]; exact ha)
      have k1 : c'.L ≠ c.L := by
        intro e
        obtain ⟨M0, hM0, _⟩ := r3.ns
        have h9 := hM0.lt
        rw [← e] at h9
        have h10 : c'.L < s2.heap.objs.size + 1 := by have := h9; rw [Heap.size_push] at this; exact this
        exact absurd h10 (Nat.not_lt.mpr hsz)
      have k2 : c'.L ∉ ρ ++ σ ++ ρ6 := fun hm => (r6.fresh _ hm).1 rfl
      have k3 : c.g.get? c'.L = none := by
        cases q : c.g.get? c'.L with
        | none => rfl
        | some o => have h11 := r3.keep _ _ q; rw [hn _ hsz] at h11; cases h11
      have eo2 : ∀ (s9 : Shared), s9 = { heap := s9.heap, gens := s9.gens, drawn := s9.drawn, toks := s9.toks, os := s9.os } := fun _ => rfl
      rw [List.append_assoc ρ] at rb ra2 k2
      have := fin (σ ++ ρ6) _ s6 (.obj st2.os.length) (.ref s2.heap.objs.size) c'.L M rb ra2 h6 hM k1 k2 k3
      refine hP _ _ ?_
      rw [hA]
      exact this
    | some va =>
      obtain ⟨u, e, ru⟩ := ro
      subst e
      refine wpAny_mono (h6 _ s6 _ u r6 ru) (fun _ s7 p => ?_) fun _ _ x => x
      obtain ⟨ρ7, _, st7, r7, _, h7⟩ := p
      rw [List.append_assoc (ρ ++ σ)] at r7
      generalize ρ6 ++ ρ7 = ρ7 at r7
      refine wp_on h7 r7 fun ρ8 b st8 ok s8 r8 rb h8 => ?_
      rw [List.append_assoc (ρ ++ σ)] at r8 rb
      generalize ρ7 ++ ρ8 = ρ8 at r8 rb
      cases rb
      cases b with
      | false =>
        obtain ⟨m, hm, hI'⟩ := h8.2 rfl
        rw [if_neg (by decide)]
        exact ⟨m, hm, ρ8, st8, r8, hI'⟩
      | true =>
        rw [if_pos rfl]
        refine wp_on (h8.1 rfl) r8 ?_
        rintro ρ9 x st9 xv s9 r9 rx ⟨l, hl, hz, m, hm, hI'⟩
        rw [List.append_assoc (ρ ++ σ)] at r9 rx
        generalize ρ8 ++ ρ9 = ρ9 at r9 rx
        have ra9 : AV.rel (ρ ++ σ ++ ρ9) (.obj st2.os.length) (.ref s2.heap.objs.size) := racc3.mono
        refine wpAny_mono (call_append (c := c') (Q := fun _ st => st = { st9 with os := st9.os.set st2.os.length (.list (l ++ [x])) }) hl hz rfl _ s9 _ [.ref s2.heap.objs.size, xv] r9 ⟨_, _, rfl, ra9, _, _, rfl, rx, rfl⟩) (fun _ s10 p => ?_) fun _ _ x => x
        obtain ⟨ρ10, _, st10, r10, _, e⟩ := p
        subst e
        rw [List.append_assoc (ρ ++ σ)] at r10
        exact ⟨m, hm, ρ9 ++ ρ10, _, r10, hI'⟩
  refine codeAny_compStart_list (loop s4 n ρ4 _ r4' hI0) ?_
  refine wpAny_mono (h0 _ s4 _ itv r4' rit3.mono) (fun it' s5 p => ?_) fun _ _ x => x
  obtain ⟨ρ5, ia, st5, r5, ri, e, hI⟩ := p
  subst e
  obtain ⟨a1, e1, e2⟩ := ri
  obtain ⟨a2, e3, e4⟩ := (AV.rel.mono (ρ' := ρ5) (rit3.mono (ρ' := ρ4)))
  rw [e1] at e3; cases e3
  rw [e2, ← e4]
  rw [List.append_assoc (ρ ++ σ)] at r5
  exact loop s5 n _ _ r5 hI

theorem ev_ListComp {elt target iter : Expr} {ifs : List Expr} {scope : Scope} {pos : Pos} {Q : AV → St → Prop} (fcl : List (Str × Nat))
    (hs : ∀ x, foldedSetIterable iter c.env x = pure x) (ht : ∀ it v, letOwnedTupleGo target it v = pure ()) (hk : scope.kind = .function)
    (hnames : ∀ y ∈ scope.names, y.2 = .local → scope.names.lookup y.1 = some .local) (hfree : ∀ p ∈ scope.names, p.2 = .free → ∃ k, c.cl.lookup p.1 = some k)
    (hf : ∀ x k, fcl.lookup x = some k → (x, NameKind.free) ∈ scope.names ∧ c.cl.lookup x = some k)
    (h : Ev W c st (eval iter c.env) (fun a st1 => It W c st1 a (CompGo W c target elt ifs scope fcl Q))) :
    Ev W c st (eval (.ListComp elt [⟨target, iter, ifs, 0⟩] scope pos) c.env) Q := fun ρ s E r => by
  rw [eval_ListComp]
  exact comp_core fcl hs ht hk hnames hfree hf (use := none) (fun ρ' st' s' a v C M rb ra hq hM k1 k2 k3 => ⟨M, hM, fun h' hs' => ⟨ρ', a, st', rb.side hs' k1 k2 k3, ra, hq⟩⟩) r h
/-- a name of the function takes a comprehension's list (the store comes before the comprehension's own names go) -/
theorem ex_AssignLC {elt target iter : Expr} {ifs : List Expr} {scope : Scope} {x : Str} {pos pos' spos : Pos} {Q : AF → St → Prop} (fcl : List (Str × Nat))
    (hsw : swapsWith (.ListComp elt [⟨target, iter, ifs, 0⟩] scope pos) (some (.Name x pos')) spos.line c.env = pure true)
    (hx : c.scope.names.lookup x = some .local)
    (hs : ∀ x, foldedSetIterable iter c.env x = pure x) (ht : ∀ it v, letOwnedTupleGo target it v = pure ()) (hk : scope.kind = .function)
    (hnames : ∀ y ∈ scope.names, y.2 = .local → scope.names.lookup y.1 = some .local) (hfree : ∀ p ∈ scope.names, p.2 = .free → ∃ k, c.cl.lookup p.1 = some k)
    (hf : ∀ x k, fcl.lookup x = some k → (x, NameKind.free) ∈ scope.names ∧ c.cl.lookup x = some k)
    (h : Ev W c st (eval iter c.env) (fun a st1 => It W c st1 a (CompGo W c target elt ifs scope fcl (fun a st2 => Q .next { st2 with m := putM x a st2.m })))) :
    Ex W c st (exec (.Assign [.Name x pos'] (.ListComp elt [⟨target, iter, ifs, 0⟩] scope pos) spos) c.env) Q := fun ρ s E r => by
  rw [exec_Assign_Name_used _ _ _ _ hsw]
  refine wpAny_bind (wpAny_standAt (wpAny_bind ?_))
  show wpAny _ _ (do let _ ← comprehension (.ListComp elt [⟨target, iter, ifs, 0⟩] scope pos) scope c.env _ (newList []) false (eval iter c.env) (some (assign (.Name x pos') c.env))) _ _ s
  refine wpAny_bind (wpAny_mono (comp_core fcl hs ht hk hnames hfree hf (use := some (assign (.Name x pos') c.env)) (R := fun _ s' => Post W c AF.rel ρ Q .next s') (fun ρ' st' s' a v C M rb ra hq hM k1 k2 k3 => ?_) r h) (fun _ s' hq => wpAny_pure (wpAny_pure hq)) fun _ _ x => x)
  show wpAny _ _ (assign (.Name x pos') c.env v) _ _ _
  obtain ⟨M0, hn, hl⟩ := rb.ns
  refine wpAny_assign_Name (wpAny_storeName_local (env := c.env) hx hn (fun h2 hn2 hs2 => ?_) ?_)
  · have r2 := rb.setLocal (n := s'.toks + 1) ra hl hn2 hs2
    refine ⟨M, hM.sameBut hs2 k1, fun h3 hs3 => ?_⟩
    exact ⟨ρ', .next, _, r2.side hs3 k1 k2 k3, rfl, hq⟩
  · show (c.scope.kind == .class || (c.scope.kind == .module && c.L != mainGlobals)) = false
    rw [rb.ok.kind]; rfl
end
-- VK
theorem VRel.strs {ρ : List Addr} : ∀ {xs : List Str} {vs : List Value}, VRel ρ (xs.map AV.str) vs → ∃ l : List (Str × Tok), vs = strValues l ∧ l.map (·.1) = xs
  | [], _, h => by cases h; exact ⟨[], rfl, rfl⟩
  | x :: xs, _, ⟨v, ws, e, ⟨t, h⟩, r⟩ => by
    obtain ⟨l, h1, h2⟩ := VRel.strs r
    subst e; subst h; subst h1
    exact ⟨(x, t) :: l, rfl, by simp [h2]⟩
theorem VRel.ofStrs (ρ : List Addr) : ∀ l : List (Str × Tok), VRel ρ ((l.map (·.1)).map AV.str) (strValues l)
  | [] => rfl
  | (x, t) :: l => ⟨.str x t, _, rfl, ⟨t, rfl⟩, VRel.ofStrs ρ l⟩
theorem VRel.from (ρ : List Addr) : ∀ (k : Nat) (xs : List Str), VRel ρ (xs.map AV.str) (strsFrom k xs)
  | _, [] => rfl
  | k, x :: xs => ⟨.str x k, _, rfl, ⟨k, rfl⟩, VRel.from ρ (k + 1) xs⟩
theorem reads_strs (h : Heap) : ∀ l : List (Str × Tok), ReadsAll h (strValues l) ((l.map (·.1)).map PyData.str) []
  | [] => .nil
  | (x, t) :: l => ReadsAll.cons (as := []) (bs := []) (.str x t) (reads_strs h l)
theorem eqv_strs : ∀ xs ys : List Str, PyData.eqvAll (xs.map PyData.str) (ys.map PyData.str) = decide (xs = ys)
  | [], [] => by simp [PyData.eqvAll]
  | [], _ :: _ => by simp [PyData.eqvAll]
  | _ :: _, [] => by simp [PyData.eqvAll]
  | x :: xs, y :: ys => by
    simp only [List.map_cons, PyData.eqvAll, PyData.eqv, eqv_strs xs ys]
    by_cases h : x = y <;> by_cases h' : xs = ys <;> simp [h, h']

/-- strings that may be laid -/
noncomputable def okS (x : Str) : Prop := PyData.strOk x = true ∧ x.length ≤ 1000
theorem lay_strs : ∀ xs : List Str, (∀ x ∈ xs, okS x) → xs.length ≤ 1000 → (PyData.list (xs.map PyData.str)).layable0 = true := by
  intro xs h hz
  have a1 : ∀ ys : List Str, (∀ x ∈ ys, okS x) → PyData.canLayAll0 (ys.map PyData.str) = true := by
    intro ys
    induction ys with
    | nil => intro _; rfl
    | cons y ys ih => intro h; simp [PyData.canLayAll0, PyData.canLay0, (h y (by simp)).1, ih fun x hx => h x (by simp [hx])]
  have a2 : ∀ ys : List Str, PyData.depthAll (ys.map PyData.str) = 0 := by
    intro ys
    induction ys with
    | nil => rfl
    | cons y ys ih => simp [PyData.depthAll, PyData.depth, ih]
  have a3 : ∀ ys : List Str, (∀ x ∈ ys, okS x) → PyData.weightAll (ys.map PyData.str) ≤ 1001 * ys.length := by
    intro ys
    induction ys with
    | nil => intro _; simp [PyData.weightAll]
    | cons y ys ih =>
      intro h
      have := ih fun x hx => h x (by simp [hx])
      have := (h y (by simp)).2
      have e : y.cps.size = y.length := rfl
      simp only [List.map_cons, PyData.weightAll, PyData.weight, List.length_cons]
      lsm_bools
  have h3 := a3 xs h
  have h4 : 1001 * xs.length ≤ 1001000 := by lsm_bools
  have h5 : PyData.weightAll (xs.map PyData.str) ≤ 2 ^ 20 := Nat.le_trans h3 (Nat.le_trans h4 (by decide))
  unfold PyData.layable0
  simp only [PyData.canLay0, a1 xs h, PyData.depth, a2, PyData.weight, Bool.and_eq_true, decide_eq_true_eq]
  exact ⟨⟨trivial, by decide⟩, decide_eq_true h5⟩

section
variable {W : Wd} {c : Cx} {st : St}

/-- a new object behind the step -/
theorem Post.new {ρ : List Addr} {s : Shared} {o : AO} {ob : Obj} {Q : AV → St → Prop} {n : Nat} (r : Rp W c ρ st s) (ho : o.rel W.w.params ρ ob) (hf : ob.isFreed = false) (h : Q (.obj st.os.length) { st with os := st.os ++ [o] }) :
    Post W c VR ρ Q (.ref s.heap.objs.size) { s with heap := s.heap.push ob, toks := n } :=
  ⟨[s.heap.objs.size], .obj st.os.length, _, (r.alloc ho hf).toks n, ⟨_, by rw [← r.objs.len]; simp, rfl⟩, h⟩

/-! strings -/
theorem op_addS {x y : Str} {Q : AV → St → Prop} (hz : x.length + y.length ≤ 1000000) (h : Q (.str (x ++ y)) st) : Op2 W c VR st (.str x) (.str y) (binaryOp .Add) Q := fun ρ s E v u r ⟨t, e⟩ ⟨t', e'⟩ => by
  subst e; subst e'
  refine PySem.P.add_str ?_
  by_cases hx : (x.length == 0) = true
  · rw [if_pos hx]
    have : x ++ y = y := by
      have h0 : x.cps.size = 0 := (by simpa using hx : x.length = 0)
      have : x.cps = #[] := by simpa using h0
      exact PySem.Str.ext' (by simp [PySem.Str.cps_append, this])
    exact Post.here h r ⟨t', by rw [this]⟩
  · rw [if_neg hx]
    by_cases hy : (y.length == 0) = true
    · rw [if_pos hy]
      have : x ++ y = x := by
        have h0 : y.cps.size = 0 := (by simpa using hy : y.length = 0)
        have : y.cps = #[] := by simpa using h0
        exact PySem.Str.ext' (by simp [PySem.Str.cps_append, this])
      exact Post.here h r ⟨t, by rw [this]⟩
    · rw [if_neg hy]
      exact ⟨by rw [PySem.Str.length_append]; unfold sizeLine; lsm_bools, Post.here h (r.toks _) ⟨_, rfl⟩⟩
theorem op_iaddS {x y : Str} {Q : AV → St → Prop} (hz : x.length + y.length ≤ 1000000) (h : Q (.str (x ++ y)) st) : Op2 W c VR st (.str x) (.str y) (inplaceOp .Add) Q := fun ρ s E v u r ⟨t, e⟩ ⟨t', e'⟩ => by
  subst e; subst e'
  refine PySem.P.iadd_str ?_
  by_cases hx : (x.length == 0) = true
  · rw [if_pos hx]
    have : x ++ y = y := by
      have h0 : x.cps.size = 0 := (by simpa using hx : x.length = 0)
      have : x.cps = #[] := by simpa using h0
      exact PySem.Str.ext' (by simp [PySem.Str.cps_append, this])
    exact Post.here h r ⟨t', by rw [this]⟩
  · rw [if_neg hx]
    by_cases hy : (y.length == 0) = true
    · rw [if_pos hy]
      have : x ++ y = x := by
        have h0 : y.cps.size = 0 := (by simpa using hy : y.length = 0)
        have : y.cps = #[] := by simpa using h0
        exact PySem.Str.ext' (by simp [PySem.Str.cps_append, this])
      exact Post.here h r ⟨t, by rw [this]⟩
    · rw [if_neg hy]
      exact ⟨by rw [PySem.Str.length_append]; unfold sizeLine; lsm_bools, Post.here h (r.toks _) ⟨_, rfl⟩⟩
theorem op_inS {x y : Str} {Q : AV → St → Prop} (h : Q (.bool !(Builtin.Str.occurrences x y 0 x.length 1).isEmpty) st) : Op2 W c VR st (.str y) (.str x) (compareOp .In) Q := fun ρ s E v u r ⟨t, e⟩ ⟨t', e'⟩ => by
  subst e; subst e'
  exact PySem.P.in_str (Post.here h r rfl)
theorem op_notInS {x y : Str} {Q : AV → St → Prop} (h : Q (.bool (Builtin.Str.occurrences x y 0 x.length 1).isEmpty) st) : Op2 W c VR st (.str y) (.str x) (compareOp .NotIn) Q := fun ρ s E v u r ⟨t, e⟩ ⟨t', e'⟩ => by
  subst e; subst e'
  refine PySem.P.notIn_str ?_
  rw [Bool.not_not]
  exact Post.here h r rfl
theorem call_lenS {x : Str} {Q : AV → St → Prop} (hz : x.length ≤ 1000000) (h : Q (.int x.length) st) : CallV W c st (.builtin "len") [.str x] Q := fun ρ s E vs r ⟨v, _, e, ⟨t, ev⟩, e'⟩ => by
  subst e; subst e'; subst ev
  exact PySem.P.len_str (by lsm_bools) (Post.here h (r.toks _) ⟨_, rfl⟩)
theorem call_split {x y : Str} {Q : AV → St → Prop} (hz : x.length ≤ 1000000) (hy : (y.length == 0) = false) (h : Q (.obj st.os.length) { st with os := st.os ++ [.list ((Txt.split x y).map AV.str)] }) :
    CallV W c st (.builtin "str.split") [.str x, .str y] Q := fun ρ s E vs r ⟨v, _, e, ⟨t, ev⟩, v2, _, e2, ⟨t2, ev2⟩, e'⟩ => by
  subst e; subst e2; subst e'; subst ev; subst ev2
  have hx : x.length ≤ sizeLine := by unfold sizeLine; lsm_bools
  unfold Txt.split at h
  by_cases h1 : (decide (x.length < y.length) || decide (Builtin.Str.strKind x < Builtin.Str.strKind y)) = true
  · rw [if_pos h1] at h
    exact call_meets PySem.F.slot_str_split (PySem.typeIs_str s x t) PySem.F.entry_str_split (PySem.F.args_str_split_2 _ _) (meets_str_split_cannot_occur x y t t2 h1) (Post.new r (o := .list ([x].map AV.str)) ⟨[.str x t], 0, rfl, .str x t, [], rfl, ⟨t, rfl⟩, rfl⟩ rfl h)
  · rw [if_neg h1] at h
    have h1' : (decide (x.length < y.length) || decide (Builtin.Str.strKind x < Builtin.Str.strKind y)) = false := by simpa using h1
    by_cases h2 : (Builtin.Str.occurrences x y 0 x.length (x.length + 1)).isEmpty = true
    · rw [if_pos h2] at h
      exact call_meets PySem.F.slot_str_split (PySem.typeIs_str s x t) PySem.F.entry_str_split (PySem.F.args_str_split_2 _ _) (meets_str_split_not_found x y t t2 h1' hy h2) (Post.new r (o := .list ([x].map AV.str)) ⟨[.str x t], 0, rfl, .str x t, [], rfl, ⟨t, rfl⟩, rfl⟩ rfl h)
    · rw [if_neg h2] at h
      have h2' : (Builtin.Str.occurrences x y 0 x.length (x.length + 1)).isEmpty = false := by simpa using h2
      exact call_meets PySem.F.slot_str_split (PySem.typeIs_str s x t) PySem.F.entry_str_split (PySem.F.args_str_split_2 _ _) (meets_str_split_sep x y t t2 h1' hy h2' hx (by rw [PySem.StrLaws.partsBetween_eq]; have := PySem.StrLaws.occ_length_le x y 0 x.length (x.length + 1); have e : ∀ (w a : Nat) (l : List Nat), (PySem.StrLaws.partsFrom x w a l).length = l.length + 1 := (by intro w a l; induction l generalizing a with | nil => rfl | cons b l ih => simp [PySem.StrLaws.partsFrom, ih]); rw [e]; unfold sizeLine; lsm_bools)) (Post.new r (o := .list _) ⟨_, _, rfl, VRel.from _ _ _⟩ rfl h)
theorem call_join {x : Str} {k : Nat} {xs : List Str} {Q : AV → St → Prop} (hk : st.os[k]? = some (.list (xs.map AV.str))) (hz : (xs.map (·.length)).sum + xs.length * x.length ≤ 1000000) (h : Q (.str (Str.join x xs)) st) :
    CallV W c st (.builtin "str.join") [.str x, .obj k] Q := fun ρ s E vs r ⟨v, _, e, ⟨t, ev⟩, v2, _, e2, hv2, e'⟩ => by
  subst e; subst e2; subst e'; subst ev
  obtain ⟨a, ws, n, e1, h1, h2, h3⟩ := r.list hk hv2
  subst e1
  obtain ⟨l, e3, e4⟩ := h3.strs
  subst e3
  have hl : Builtin.Str.tooLong ((l.map (·.1)).toArray.foldl (· + ·.length + x.length) 0) = false := by
    rw [e4, PySem.StrLaws.joinTotal]; unfold Builtin.Str.tooLong sizeLine; simp; lsm_bools
  refine call_meets PySem.F.slot_str_join (PySem.typeIs_str s x t) PySem.F.entry_str_join (PySem.F.args_str_join_2 _ _) (meets_str_join_list x t a l hl) ⟨⟨_, h2, rfl, n, rfl⟩, ?_⟩
  have hj : Str.join x xs = Builtin.Str.glued x (l.map (·.1)) := by rw [PySem.StrLaws.glued_eq_join, e4]
  have hlen : (Builtin.Str.glued x (l.map (·.1))).length ≤ sizeLine := by
    rw [← hj]; have := PySem.StrLaws.join_length_le x xs; unfold sizeLine; lsm_bools
  match l, e4, hj, hlen with
  | [], _, hj, hlen => exact ⟨hlen, Post.here h (r.toks _) ⟨_, by rw [hj]⟩⟩
  | [p], e4, hj, hlen => exact Post.here h r ⟨p.2, by rw [← e4]; rfl⟩
  | p :: q :: l, _, hj, hlen => exact ⟨hlen, Post.here h (r.toks _) ⟨_, by rw [hj]⟩⟩

/-! lists -/
theorem op_eqL {j k : Nat} {xs ys : List Str} {Q : AV → St → Prop} (hj : st.os[j]? = some (.list (xs.map AV.str))) (hk : st.os[k]? = some (.list (ys.map AV.str))) (hx : ∀ x ∈ xs, okS x) (hy : ∀ x ∈ ys, okS x) (zx : xs.length ≤ 1000) (zy : ys.length ≤ 1000)
    (h : Q (.bool (decide (xs = ys))) st) : Op2 W c VR st (.obj j) (.obj k) (compareOp .Eq) Q := fun ρ s E v u r hv hu => by
  obtain ⟨a, ws, n, e1, h1, h2, h3⟩ := r.list hj hv
  obtain ⟨b, ws', n', e1', h1', h2', h3'⟩ := r.list hk hu
  subst e1; subst e1'
  obtain ⟨l, e3, e4⟩ := h3.strs
  obtain ⟨l', e3', e4'⟩ := h3'.strs
  subst e3; subst e3'
  have un := r.ok.un
  refine eq_dataS (Reads.list h2 rfl rfl (by rw [List.toList_toArray]; exact reads_strs _ l)) (Reads.list h2' rfl rfl (by rw [List.toList_toArray]; exact reads_strs _ l')) (by rw [e4]; exact lay_strs xs hx zx) (by rw [e4']; exact lay_strs ys hy zy) (by lsm_bools) ?_
  rw [PyData.eqv, eqv_strs, e4, e4']
  exact Post.here h r rfl
theorem op_neL {j k : Nat} {xs ys : List Str} {Q : AV → St → Prop} (hj : st.os[j]? = some (.list (xs.map AV.str))) (hk : st.os[k]? = some (.list (ys.map AV.str))) (hx : ∀ x ∈ xs, okS x) (hy : ∀ x ∈ ys, okS x) (zx : xs.length ≤ 1000) (zy : ys.length ≤ 1000)
    (h : Q (.bool (!decide (xs = ys))) st) : Op2 W c VR st (.obj j) (.obj k) (compareOp .NotEq) Q := fun ρ s E v u r hv hu => by
  obtain ⟨a, ws, n, e1, h1, h2, h3⟩ := r.list hj hv
  obtain ⟨b, ws', n', e1', h1', h2', h3'⟩ := r.list hk hu
  subst e1; subst e1'
  obtain ⟨l, e3, e4⟩ := h3.strs
  obtain ⟨l', e3', e4'⟩ := h3'.strs
  subst e3; subst e3'
  have un := r.ok.un
  refine ne_dataS (Reads.list h2 rfl rfl (by rw [List.toList_toArray]; exact reads_strs _ l)) (Reads.list h2' rfl rfl (by rw [List.toList_toArray]; exact reads_strs _ l')) (by rw [e4]; exact lay_strs xs hx zx) (by rw [e4']; exact lay_strs ys hy zy) (by lsm_bools) ?_
  rw [PyData.eqv, eqv_strs, e4, e4']
  exact Post.here h r rfl
theorem op_addL {j k : Nat} {xs ys : List AV} {Q : AV → St → Prop} (hj : st.os[j]? = some (.list xs)) (hk : st.os[k]? = some (.list ys)) (zx : xs.length + ys.length ≤ 100000)
    (h : Q (.obj st.os.length) { st with os := st.os ++ [.list (xs ++ ys)] }) : Op2 W c VR st (.obj j) (.obj k) (binaryOp .Add) Q := fun ρ s E v u r hv hu => by
  obtain ⟨a, ws, n, e1, h1, h2, h3⟩ := r.list hj hv
  obtain ⟨b, ws', n', e1', h1', h2', h3'⟩ := r.list hk hu
  subst e1; subst e1'
  have l1 := h3.length
  have l2 := h3'.length
  refine PySem.P.add_list h2 h2' ?_ (by simp only [List.size_toArray]; unfold sizeLine; lsm_bools)
  exact Post.new r (o := .list (xs ++ ys)) ⟨ws ++ ws', 0, by simp [PySem.W.listOf], h3.append h3'⟩ rfl h

theorem ev_part0 {Q : AV → St → Prop} (h : Q .none st) : Ev W c st (evalPart none c.env) Q := fun ρ s E r => wpAny_pure (Post.here h r rfl)
theorem ev_part1 {e : Expr} {Q : AV → St → Prop} (h : Ev W c st (eval e c.env) Q) : Ev W c st (evalPart (some e) c.env) Q := h

/-- a slice -/
noncomputable def SliceR (W : Wd) (c : Cx) (st : St) (T : String) (a l u : AV) (Q : AV → St → Prop) : Prop :=
  ∀ (ρ : List Addr) (s : Shared) (E : Value → Shared → Prop) (v vl vu : Value) (b : Addr), Rp W c ρ st s → a.rel ρ v → l.rel ρ vl → u.rel ρ vu → s.heap.get? b = some { cls := .type "slice", data := .fields #[vl, vu, .none] } →
    s.TypeIs v T ∧ wpAny W.M c.A (getItem v (.ref b)) (Post W c VR ρ Q) E s
theorem ev_SubSlice {value : Expr} {lower upper : Option Expr} {p pos : Pos} {Q : AV → St → Prop}
    (h : Ev W c st (eval value c.env) (fun a st1 => Ev W c st1 (evalPart lower c.env) (fun l st2 => Ev W c st2 (evalPart upper c.env) (fun u st3 => ∃ T id, typeLookup (.type T) "__getitem__" = pure (some (.builtin id)) ∧ SliceR W c st3 T a l u Q)))) :
    Ev W c st (eval (.Subscript value (.Slice lower upper none p) pos) c.env) Q := fun ρ s E r => by
  rw [eval_Subscript]
  refine wpAny_bind (wp_on h r fun ρ1 a st1 v s1 r1 ra h1 => ?_)
  refine wpAny_bind (wpAny_holding (wpAny_Slice (wp_on h1 r1 fun ρ2 l st2 vl s2 r2 rl h2 => wp_on h2 r2 fun ρ3 u st3 vu s3 r3 ru ⟨T, id, hl, h3⟩ => ?_)))
  rw [evalPart_none]
  refine wpAny_pure (wpAny_bind (wpAny_standAt ?_))
  have r4 : Rp W c (ρ ++ ρ1 ++ ρ2 ++ ρ3) st3 { s3 with heap := s3.heap.push { cls := .type "slice", data := .fields #[vl, vu, .none] } } := r3.grow (n := s3.toks) fun b o e => Heap.get?_push_of_some _ e
  obtain ⟨hT, hw⟩ := h3 _ _ E v vl vu s3.heap.objs.size r4 ra.mono.mono rl.mono ru (Heap.get?_push_size _ rfl)
  have fin : wpAny W.M c.A (operate [.ref s3.heap.objs.size, v] (getItem v (.ref s3.heap.objs.size))) (fun r s₃ => wpAny W.M c.A (letTemporaryGo value v r >>= fun _ => pure r) (Post W c VR ρ Q) E s₃) E _ :=
    wpAny_operating (wpAny_mono hw (fun r s₃ h₃ => wpAny_bind (wpAny_letTemporaryGo (wpAny_pure (Post.ext (Post.ext (Post.ext h₃)))))) fun _ _ x => x)
  refine wpAny_bind ?_
  rw [getitemInPython_of_ne hT.not_modules]
  refine wpAny_bind (wpAny_specialOf hT hl ?_)
  first
    | exact wpAny_pure (wpAny_bind fin)
    | exact wpAny_bind (wpAny_pure (wpAny_bind fin))
    | exact wpAny_bind fin
theorem sl_list {k : Nat} {l : List AV} {n : Nat} {Q : AV → St → Prop} (hk : st.os[k]? = some (.list l)) (hz : l.length ≤ 100000) (h : Q (.obj st.os.length) { st with os := st.os ++ [.list (l.take n)] }) : SliceR W c st "list" (.obj k) .none (.int n) Q := fun ρ s E v vl vu b r hv hvl hvu hb => by
  obtain ⟨a, vs, m, e1, h1, h2, h3⟩ := r.list hk hv
  obtain ⟨t, hvu⟩ := hvu
  cases (show vl = .none from hvl)
  subst e1; subst hvu
  have hlen := h3.length
  have hL : s.heap.IsList a (List.toArray vs) := ⟨_, h2, rfl, m, rfl⟩
  refine ⟨hL.typeIs, wpAny_getItem_list_slice hL ⟨_, hb, rfl, rfl⟩ .none (.int n t) .none (by simp) ?_ (by simp only [List.size_toArray]; unfold sizeLine; lsm_bools)⟩
  rw [slicePick_upto']
  exact Post.new r (o := .list (l.take n)) ⟨vs.take n, 0, by simp [PySem.W.listOf], h3.take n⟩ rfl h
theorem sl_str {x y : Str} {l u : AV} {lo hi : Option Int} {Q : AV → St → Prop} (hl : l = (match lo with | none => .none | some i => .int i)) (hu : u = (match hi with | none => .none | some i => .int i)) (hz : x.length ≤ 1000000)
    (hy : y = ⟨((Builtin.Str.strSliceIndices lo hi 1 x.length).filterMap (x.cps[·]?)).toArray⟩) (hy2 : (Builtin.Str.strSliceIndices lo hi 1 x.length).length = x.length → y = x) (hy3 : y.length ≤ 1000000)
    (h : Q (.str y) st) : SliceR W c st "str" (.str x) l u Q := fun ρ s E v vl vu b r hv hvl hvu hb => by
  obtain ⟨t, hv⟩ := hv
  subst hv
  have hp : ∀ (z : Option Int) (a : AV) (va : Value), a = (match z with | none => .none | some i => .int i) → AV.rel ρ a va → ∃ p : Option (Int × Tok), va = partValue p ∧ p.map (·.1) = z := by
    intro z a va e h
    cases z with
    | none => subst e; exact ⟨none, h, rfl⟩
    | some i => subst e; obtain ⟨t, h⟩ := h; exact ⟨some (i, t), h, rfl⟩
  obtain ⟨p1, e1, e2⟩ := hp _ _ _ hl hvl
  obtain ⟨p2, e3, e4⟩ := hp _ _ _ hu hvu
  subst e1; subst e3
  refine ⟨PySem.typeIs_str s x t, wpAny_getItem_str_slice (l := p1) (u := p2) (st := none) ⟨_, hb, rfl, rfl⟩ rfl ?_⟩
  unfold sliceMade slicePicked
  rw [e2, e4]
  by_cases hc : ((none : Option (Int × Tok)).map (·.1)).getD 1 == 1 && (Builtin.Str.strSliceIndices lo hi (((none : Option (Int × Tok)).map (·.1)).getD 1) x.length).length == x.length
  · rw [if_pos hc]
    exact Post.here h r ⟨t, by rw [hy2 (by simpa using hc)]⟩
  · rw [if_neg hc]
    exact ⟨by show Str.length ⟨_⟩ ≤ sizeLine; rw [show (⟨((Builtin.Str.strSliceIndices lo hi (((none : Option (Int × Tok)).map (·.1)).getD 1) x.length).filterMap (x.cps[·]?)).toArray⟩ : Str) = y from hy.symm]; unfold sizeLine; lsm_bools, Post.here h (r.toks _) ⟨_, by rw [hy]; rfl⟩⟩
end
-- VL
/-- what was there stays -/
noncomputable def Ext (a b : List AO) : Prop := ∀ (j : Nat) (o : AO), a[j]? = some o → b[j]? = some o
theorem Ext.refl (a : List AO) : Ext a a := fun _ _ h => h
theorem Ext.trans {a b d : List AO} (h : Ext a b) (h' : Ext b d) : Ext a d := fun j o e => h' j o (h j o e)
theorem Ext.app (a b : List AO) : Ext a (a ++ b) := fun j o e => idx_app e
theorem Ext.snoc {a b : List AO} {o : AO} (h : Ext a b) : Ext a (b ++ [o]) := h.trans (Ext.app _ _)
theorem Ext.len {a b : List AO} (h : Ext a b) : a.length ≤ b.length := by
  rcases Nat.eq_zero_or_pos a.length with q | q
  · lsm_bools
  · have := h (a.length - 1) a[a.length - 1] (by rw [List.getElem?_eq_getElem])
    have := (List.getElem?_eq_some_iff.mp this).1
    lsm_bools
theorem Ext.set {a b : List AO} {k : Nat} {o : AO} (h : Ext a b) (hk : a.length ≤ k) : Ext a (b.set k o) := fun j o' e => by
  have : j < a.length := (List.getElem?_eq_some_iff.mp e).1
  rw [List.getElem?_set_ne (by lsm_bools)]; exact h j o' e

/-- a walker: its states, and what it walks over -/
structure Source (W : Wd) (os : List AO) (kit : Nat) (itS : Nat → AO) (l : List AV) : Prop where
  two : ∀ (c : Cx) (st : St) (Q : AV → St → Prop), st.os[kit]? = some (itS 0) → Q (.obj kit) st → It W c st (.obj kit) Q
  nx : ∀ (c : Cx) (st : St) (i : Nat) (Q : Option AV → St → Prop), st.os[kit]? = some (itS i) → Ext os st.os → (∀ a, l[i]? = some a → Q (some a) { st with os := st.os.set kit (itS (i + 1)) }) →
    (l[i]? = none → ∀ o, Q none { st with os := st.os.set kit o }) → i ≤ l.length → Nx W c st (.obj kit) Q

section
variable {W : Wd}
theorem src_list {os : List AO} {k kit : Nat} {l : List AV} (hk : os[k]? = some (.list l)) : Source W os kit (itO "list_iterator" k) l :=
  ⟨fun c st Q h q => it_listit h q, fun c st i Q h e h1 h0 _ => nx_list h (e _ _ hk) h1 fun q => h0 q _⟩
theorem src_tup {os : List AO} {k kit : Nat} {l : List AV} (hk : os[k]? = some (.tup l)) : Source W os kit (itO "tuple_iterator" k) l :=
  ⟨fun c st Q h q => it_tupit h q, fun c st i Q h e h1 h0 _ => nx_tup h (e _ _ hk) h1 fun q => h0 q _⟩
theorem src_range {os : List AO} {kit : Nat} (n : Nat) : Source W os kit (fun i => rgO i ((n : Int) - i) 1) ((List.range n).map fun i : Nat => AV.int (i : Int)) :=
  ⟨fun c st Q h q => it_rangeit h q, fun c st i Q h e h1 h0 hi => by
    refine nx_range h (fun hp => ?_) fun hp => ?_
    · have hlt : i < n := by lsm_bools
      have := h1 (.int i) (by simp [hlt])
      have e1 : ((i : Int) + 1) = ((i + 1 : Nat) : Int) := by push_cast; rfl
      have e2 : (n : Int) - (i : Int) - 1 = (n : Int) - ((i + 1 : Nat) : Int) := by push_cast; lsm_bools
      rw [e1, e2]; exact this
    · have hge : n ≤ i := by lsm_bools
      have := h0 (by simp; lsm_bools) (rgO i ((n : Int) - i) 1)
      have e3 : st.os.set kit (rgO i ((n : Int) - i) 1) = st.os := by
        obtain ⟨hl, e⟩ := List.getElem?_eq_some_iff.mp h
        rw [← e]; exact List.set_getElem_self hl
      rw [e3] at this
      exact this⟩

theorem newCells_none {names : List (Str × NameKind)} (h : ∀ x ∈ names, x.2 ≠ .cell) : newCells names = [] := by
  induction names with
  | nil => rfl
  | cons x r ih =>
    obtain ⟨x, k⟩ := x
    have : (k == NameKind.cell) = false := by simpa using h (x, k) List.mem_cons_self
    simp only [newCells, this, Bool.false_eq_true, if_false]
    exact ih fun y hy => h y (List.mem_cons_of_mem _ hy)
theorem newCl_none {names : List (Str × NameKind)} {n : Nat} {acc : List (Str × Nat)} (h : ∀ x ∈ names, x.2 ≠ .cell) : newCl names n acc = acc := by
  induction names generalizing n acc with
  | nil => rfl
  | cons x r ih =>
    obtain ⟨x, k⟩ := x
    have : (k == NameKind.cell) = false := by simpa using h (x, k) List.mem_cons_self
    simp only [newCl, this, Bool.false_eq_true, if_false]
    exact ih fun y hy => h y (List.mem_cons_of_mem _ hy)

/-- paired -/
inductive Pr {α β : Type} (F : α → β → Prop) : List α → List β → Prop
  | nil : Pr F [] []
  | cons {a b as bs} : F a b → Pr F as bs → Pr F (a :: as) (b :: bs)
theorem Pr.snoc {α β : Type} {F : α → β → Prop} {a : α} {b : β} {as : List α} {bs : List β} (h : Pr F as bs) (h' : F a b) : Pr F (as ++ [a]) (bs ++ [b]) := by
  induction h with
  | nil => exact .cons h' .nil
  | cons h _ ih => exact .cons h ih
theorem Pr.mono {α β : Type} {F G : α → β → Prop} {as : List α} {bs : List β} (h : Pr F as bs) (k : ∀ a b, F a b → G a b) : Pr G as bs := by
  induction h with
  | nil => exact .nil
  | cons h _ ih => exact .cons (k _ _ h) ih
theorem Pr.length {α β : Type} {F : α → β → Prop} {as : List α} {bs : List β} (h : Pr F as bs) : bs.length = as.length := by
  induction h with
  | nil => rfl
  | cons _ _ ih => exact congrArg (· + 1) ih
theorem Pr.map {α β : Type} {F : α → β → Prop} {f : α → β} {as : List α} {bs : List β} (h : Pr F as bs) (k : ∀ a ∈ as, ∀ b, F a b → b = f a) : bs = as.map f := by
  induction h with
  | nil => rfl
  | cons h _ ih => rw [k _ (.head _) _ h, ih fun a ha => k a (.tail _ ha)]; rfl

theorem take_snoc {α : Type} {l : List α} {i : Nat} {a : α} (h : l[i]? = some a) : l.take (i + 1) = l.take i ++ [a] := by
  rw [List.take_add_one, h]; rfl

inductive CsI (st1 : St) (x : Str) (itS : Nat → AO) (l : List AV) (p : AV → Bool) (F : List AO → AV → AV → Prop) (n : Nat) (st : St) : Prop
  | mk (i : Nat) (ys : List AV) (h1 : n + i = l.length + 1) (h2 : i ≤ l.length) (h3 : st.gn = st1.gn) (h4 : st.m = [] ∨ ∃ b, st.m = [(x, b)]) (h5 : Ext st1.os st.os) (h6 : st.os[st1.os.length]? = some (itS i)) (h7 : st.os[st1.os.length + 1]? = some (.list ys)) (h8 : Pr (F st.os) ((l.take i).filter p) ys)
theorem comp_src {c : Cx} {st1 : St} {x : Str} {px : Pos} {elt : Expr} {ifs : List Expr} {scope : Scope} {Q : AV → St → Prop} (fcl : List (Str × Nat)) {v : AV} {itS : Nat → AO} {l : List AV} (p : AV → Bool) (F : List AO → AV → AV → Prop)
    (hc : ∀ y ∈ scope.names, y.2 ≠ .cell) (hx : (relabel scope c.env).names.lookup x = some .local) (hz : l.length ≤ 100000)
    (hit : ∀ Q : AV → St → Prop, Q (.obj st1.os.length) { st1 with os := st1.os ++ [itS 0] } → It W c st1 v Q) (src : Source W st1.os st1.os.length itS l)
    (hF : ∀ (os os' : List AO) (a y : AV), (∀ (j : Nat) (o : AO), st1.os.length + 1 < j → os[j]? = some o → os'[j]? = some o) → F os a y → F os' a y)
    (turn : ∀ (c' : Cx) (os : List AO) (i : Nat) (a : AV), Inl c c' scope fcl → l[i]? = some a → Ext st1.os os → st1.os.length + 2 ≤ os.length →
      Tsts W c' ⟨[(x, a)], os, st1.gn⟩ ifs (fun b st5 => b = p a ∧ st5.m = [(x, a)] ∧ st5.gn = st1.gn ∧ Ext os st5.os ∧
        (b = true → Ev W c' st5 (eval elt c'.env) (fun y st6 => st6.m = [(x, a)] ∧ st6.gn = st1.gn ∧ Ext st5.os st6.os ∧ F st6.os a y))))
    (hQ : ∀ (os' : List AO) (ys : List AV), Ext st1.os os' → os'[st1.os.length + 1]? = some (.list ys) → Pr (F os') (l.filter p) ys → Q (.obj (st1.os.length + 1)) { st1 with os := os' }) :
    It W c st1 v (CompGo W c (.Name x px) elt ifs scope fcl Q) := by
  refine hit _ ⟨st1.os.length, rfl, fun c' hin => ?_⟩
  rw [newCl_none hc] at hin
  rw [newCells_none hc]
  have el : (st1.os ++ [itS 0]).length = st1.os.length + 1 := by simp
  have e0 : st1.os ++ [itS 0] ++ [AO.list []] = st1.os ++ [itS 0, .list []] := by simp
  have hI0 : CsI st1 x itS l p F (l.length + 1) ⟨[], st1.os ++ [itS 0] ++ [AO.list []], st1.gn⟩ := by
    refine ⟨0, [], rfl, Nat.zero_le _, rfl, .inl rfl, ?_, ?_, ?_, .nil⟩
    · rw [e0]; exact Ext.app _ _
    · show (st1.os ++ [itS 0] ++ [AO.list []])[_]? = _
      rw [e0, List.getElem?_append_right (Nat.le_refl _)]; simp
    · show (st1.os ++ [itS 0] ++ [AO.list []])[_]? = _
      rw [e0, List.getElem?_append_right (by lsm_bools)]; simp
  refine ⟨CsI st1 x itS l p F, l.length + 1, src.two c' _ _ ?_ ⟨rfl, hI0⟩, hI0, fun n st hI => ?_⟩
  · show (st1.os ++ [itS 0] ++ [AO.list []])[_]? = _
    rw [e0, List.getElem?_append_right (Nat.le_refl _)]; simp
  · obtain ⟨i, ys, hn, hil, hgn, hm, hext, hit, hacc, hpr⟩ := hI
    obtain ⟨m, os, gn⟩ := st
    have hlen : st1.os.length + 2 ≤ os.length := by have := (List.getElem?_eq_some_iff.mp hacc).1; simp only at this; lsm_bools
    simp only at hgn hm hext hit hacc hpr
    subst hgn
    refine src.nx c' _ i _ hit hext (fun a ha => ?_) (fun hnone o => ?_) hil
    · -- one more
      have hlt : i < l.length := (List.getElem?_eq_some_iff.mp ha).1
      have hm2 : putM x a m = [(x, a)] := by
        rcases hm with rfl | ⟨b, rfl⟩
        · rfl
        · simp [putM]
      have hext1 : Ext st1.os (os.set st1.os.length (itS (i + 1))) := hext.set (Nat.le_refl _)
      have hF1 : ∀ a y, F os a y → F (os.set st1.os.length (itS (i + 1))) a y := fun a y => hF _ _ a y fun j o hj e => by rw [List.getElem?_set_ne (by lsm_bools)]; exact e
      refine as_Name (by rw [hin.scope]; exact hx) ?_
      show Tsts W c' ⟨putM x a m, os.set st1.os.length (itS (i + 1)), st1.gn⟩ ifs _
      rw [hm2]
      refine EvK.mono (turn c' _ i a hin ha hext1 (by simpa using hlen)) ?_
      rintro b st5 ⟨hb, hm5, hg5, he5, hev⟩
      refine ⟨fun hbt => ?_, fun hbf => ?_⟩
      · refine EvK.mono (hev hbt) ?_
        rintro y st6 ⟨hm6, hg6, he6, hf6⟩
        have hacc1 : (os.set st1.os.length (itS (i + 1)))[st1.os.length + 1]? = some (.list ys) := by rw [List.getElem?_set_ne (by lsm_bools)]; exact hacc
        have hacc6 := he6 _ _ (he5 _ _ hacc1)
        have hys : ys.length ≤ 100000 := by rw [hpr.length]; exact Nat.le_trans (List.length_filter_le ..) (by simp; lsm_bools)
        show ∃ l', st6.os[(st1.os ++ [itS 0]).length]? = _ ∧ _ ∧ ∃ m, m < n ∧ CsI st1 x itS l p F m { st6 with os := st6.os.set (st1.os ++ [itS 0]).length _ }
        rw [el]
        refine ⟨ys, hacc6, hys, n - 1, by lsm_bools, i + 1, ys ++ [y], by lsm_bools, by lsm_bools, hg6, .inr ⟨a, hm6⟩, ((hext1.trans he5).trans he6).set (by lsm_bools), ?_, ?_, ?_⟩
        · show (st6.os.set _ _)[_]? = _
          rw [List.getElem?_set_ne (by lsm_bools)]
          exact he6 _ _ (he5 _ _ (List.getElem?_set_self (by lsm_bools)))
        · exact List.getElem?_set_self (List.getElem?_eq_some_iff.mp hacc6).1
        · have hb : p a = true := by rw [← hb]; exact hbt
          rw [take_snoc ha, List.filter_append]
          have e1 : List.filter p [a] = [a] := by simp [hb]
          rw [e1]
          have up : ∀ a y, F st6.os a y → F (st6.os.set (st1.os.length + 1) (.list (ys ++ [y]))) a y := fun a y => hF _ _ a y fun j o hj e => by rw [List.getElem?_set_ne (by lsm_bools)]; exact e
          have up2 : ∀ z a y, F st6.os a y → F (st6.os.set (st1.os.length + 1) (.list (ys ++ [z]))) a y := fun z a y => hF _ _ a y fun j o hj e => by rw [List.getElem?_set_ne (by lsm_bools)]; exact e
          refine Pr.snoc (hpr.mono fun a y h => up2 _ _ _ (hF _ _ _ _ (fun j o _ e => he6 j o (he5 j o e)) (hF1 _ _ h))) (up2 _ _ _ hf6)
      · have hb : p a = false := by rw [← hb]; exact hbf
        have hacc1 : (os.set st1.os.length (itS (i + 1)))[st1.os.length + 1]? = some (.list ys) := by rw [List.getElem?_set_ne (by lsm_bools)]; exact hacc
        refine ⟨n - 1, by lsm_bools, i + 1, ys, by lsm_bools, by lsm_bools, hg5, .inr ⟨a, hm5⟩, hext1.trans he5, he5 _ _ (List.getElem?_set_self (by lsm_bools)), he5 _ _ hacc1, ?_⟩
        rw [take_snoc ha, List.filter_append]
        have e1 : List.filter p [a] = [] := by simp [hb]
        rw [e1, List.append_nil]
        exact hpr.mono fun a y h => hF _ _ _ _ (fun j o _ e => he5 j o e) (hF1 _ _ h)
    · -- the end
      have hi : i = l.length := by have : l.length ≤ i := by simpa using hnone
                                   lsm_bools
      show Q (.obj (st1.os ++ [itS 0]).length) _
      rw [el]
      refine hQ _ ys (hext.set (Nat.le_refl _)) (by rw [List.getElem?_set_ne (by lsm_bools)]; exact hacc) ?_
      rw [hi, List.take_length] at hpr
      exact hpr.mono fun a y => hF _ _ a y fun j o hj e => by rw [List.getElem?_set_ne (by lsm_bools)]; exact e

/-- what a comprehension's names must be -/
noncomputable def compOk (names : List (Str × NameKind)) (cl fcl : List (Str × Nat)) : Bool :=
  (names.all fun y => y.2 != .local || names.lookup y.1 == some .local) && (names.all fun p => p.2 != .free || (cl.lookup p.1).isSome) && (fcl.all fun p => names.contains (p.1, NameKind.free) && cl.lookup p.1 == some p.2)
theorem ev_LC {c : Cx} {st : St} {elt target iter : Expr} {ifs : List Expr} {scope : Scope} {pos : Pos} {Q : AV → St → Prop} (fcl : List (Str × Nat))
    (hs : ∀ x, foldedSetIterable iter c.env x = pure x) (ht : ∀ it v, letOwnedTupleGo target it v = pure ()) (hk : scope.kind = .function) (hb : compOk scope.names c.cl fcl = true)
    (h : Ev W c st (eval iter c.env) (fun a st1 => It W c st1 a (CompGo W c target elt ifs scope fcl Q))) :
    Ev W c st (eval (.ListComp elt [⟨target, iter, ifs, 0⟩] scope pos) c.env) Q := by
  simp only [compOk, Bool.and_eq_true, List.all_eq_true] at hb
  obtain ⟨⟨h1, h2⟩, h3⟩ := hb
  refine ev_ListComp fcl hs ht hk (fun y hy e => ?_) (fun p hp e => ?_) (fun x k e => ?_) h
  · have := h1 y hy; rw [e] at this; simpa using this
  · have := h2 p hp; rw [e] at this
    exact Option.isSome_iff_exists.mp (by simpa using this)
  · have := h3 _ (mem_of_lookup e)
    simp only [Bool.and_eq_true] at this
    exact ⟨by simpa using this.1, by simpa using this.2⟩
theorem ex_ALC {c : Cx} {st : St} {elt target iter : Expr} {ifs : List Expr} {scope : Scope} {x : Str} {pos pos' spos : Pos} {Q : AF → St → Prop} (fcl : List (Str × Nat))
    (hsw : swapsWith (.ListComp elt [⟨target, iter, ifs, 0⟩] scope pos) (some (.Name x pos')) spos.line c.env = pure true) (hx : c.scope.names.lookup x = some .local)
    (hs : ∀ x, foldedSetIterable iter c.env x = pure x) (ht : ∀ it v, letOwnedTupleGo target it v = pure ()) (hk : scope.kind = .function) (hb : compOk scope.names c.cl fcl = true)
    (h : Ev W c st (eval iter c.env) (fun a st1 => It W c st1 a (CompGo W c target elt ifs scope fcl (fun a st2 => Q .next { st2 with m := putM x a st2.m })))) :
    Ex W c st (exec (.Assign [.Name x pos'] (.ListComp elt [⟨target, iter, ifs, 0⟩] scope pos) spos) c.env) Q := by
  simp only [compOk, Bool.and_eq_true, List.all_eq_true] at hb
  obtain ⟨⟨h1, h2⟩, h3⟩ := hb
  refine ex_AssignLC fcl hsw hx hs ht hk (fun y hy e => ?_) (fun p hp e => ?_) (fun x k e => ?_) h
  · have := h1 y hy; rw [e] at this; simpa using this
  · have := h2 p hp; rw [e] at this
    exact Option.isSome_iff_exists.mp (by simpa using this)
  · have := h3 _ (mem_of_lookup e)
    simp only [Bool.and_eq_true] at this
    exact ⟨by simpa using this.1, by simpa using this.2⟩
theorem swaps_LC {c : Cx} {sc : Scope} {elt : Expr} {gens : List Comprehension} {scope : Scope} {x : Str} {pos pos' : Pos} {line : Nat} {b : Bool} (hsc : c.scope = sc) (hk : sc.kind = .function)
    (h : (sc.names.lookup x == some .local && pos'.line == pos.line && !(scope.names.any fun (n, k) => n == x && (k == .local || k == .cell))) = b) :
    swapsWith (.ListComp elt gens scope pos) (some (.Name x pos')) line c.env = pure b := by
  subst hsc; subst h
  have e : c.env.blockKind = .function := by
    unfold Env.blockKind
    show (if c.scope.kind.isAnnotationScope then ScopeKind.function else c.scope.kind) = .function
    rw [hk]; rfl
  show (pure (c.env.blockKind == .function && c.scope.names.lookup x == some .local && pos'.line == pos.line && !(scope.names.any fun (n, k) => n == x && (k == .local || k == .cell))) : Sem Bool) = _
  rw [e]; rfl
end
-- EN
/-- the names of a path -/
noncomputable def namesOf (x : Str) : List Str := (Txt.split x (Str.ofString "/")).filter fun y => !decide (y = Str.ofString "")
theorem split_len (x y : Str) : (Txt.split x y).length ≤ x.length + 2 := by
  unfold Txt.split
  split
  · simp
  · split
    · simp
    · rw [PySem.StrLaws.partsBetween_eq]
      have := PySem.StrLaws.occ_length_le x y 0 x.length (x.length + 1)
      have e : ∀ (w a : Nat) (l : List Nat), (PySem.StrLaws.partsFrom x w a l).length = l.length + 1 := by
        intro w a l
        induction l generalizing a with
        | nil => rfl
        | cons b l ih => simp [PySem.StrLaws.partsFrom, ih]
      rw [e]; lsm_bools
theorem strs_get {xs : List Str} {i : Nat} {a : AV} (h : (xs.map AV.str)[i]? = some a) : ∃ y, y ∈ xs ∧ a = .str y := by
  have := List.mem_of_getElem? h
  simp at this
  obtain ⟨y, hy, e⟩ := this
  exact ⟨y, hy, e.symm⟩
theorem spec_names {w : World} {c : Cx} {st : St} {x : Str} {Q : AV → St → Prop} (hr : 2 ≤ c.room) (hx : okS x)
    (h : ∀ (os' : List AO) (j : Nat), Ext st.os os' → st.os.length ≤ j → os'[j]? = some (.list ((namesOf x).map AV.str)) → Q (.obj j) { st with os := os' }) : CallV (WW w) c st (.ref 889) [.str x] Q := by
  (refine' call_pos (m0 := [(Str.ofString "place", .str x)]) ?ho ?hcd ?room ?hb ?hm ?hloc ?c1 ?c2 ?c3 ?c4 ?_; (case ho => (((try dsimp only [WW]); k_is))); (case hcd => (((try dsimp only [WW]); k_is))); (case c1 => exact rfl); (case c2 => exact rfl); (case c3 => exact rfl); (case c4 => decide); (case hm => (simp only [List.map_cons, List.map_nil]; decide)); (case hloc => (simp only [List.map_cons, List.map_nil]; decide)); (case room => lsm_bools); (case hb => first | (refine hb1 ?_; intro a; kernel_rfl) | (refine hb2 ?_; intro a b; kernel_rfl) | (refine hb3 ?_; intro a b d; kernel_rfl)))
  intro c' hs hcl hrm
  repeat' (first | tb_start | with_reducible first | refine ex_cons ?_ | refine ex_If ?_)
  refine ev_LC [] (fun _ => rfl) (fun _ _ => rfl) rfl (by rw [hcl]; decide) ?_
  repeat' (first | tb_start | with_reducible first | refine ex_cons ?_ | refine ex_If ?_)
  refine getM_str PySem.F.slot_str_split PySem.F.type_str_split ?_
  repeat' (first | tb_start | with_reducible first | refine ex_cons ?_ | refine ex_If ?_)
  refine call_split (by have := hx.2; lsm_bools) (by decide) ?_
  have hk : (st.os ++ [.list ((Txt.split x (Str.ofString "/")).map AV.str)])[st.os.length]? = some (.list ((Txt.split x (Str.ofString "/")).map AV.str)) := by simp
  refine' comp_src [] (fun a => match a with | .str y => !decide (y = Str.ofString "") | _ => true) (fun _ a y => y = a) ?hc ?hx ?hz ?hit ?src ?hF ?turn ?fin
  case hit => exact fun Q h => it_list hk h
  case src => exact src_list hk
  case hF => exact fun _ _ _ _ _ h => h
  case hc => decide
  case hx => exact lookup_relabel_local rfl
  case hz => have := split_len x (Str.ofString "/"); have := hx.2; simp; lsm_bools
  case turn =>
    intro c2 os i a hin ha he hl
    obtain ⟨y, _, rfl⟩ := strs_get ha
    have hsc := hin.scope
    refine tsts_one ?_
    repeat' (first | tb_start | with_reducible first | refine ex_cons ?_ | refine ex_If ?_)
    refine ⟨rfl, rfl, rfl, Ext.refl _, fun _ => ?_⟩
    repeat' (first | tb_start | with_reducible first | refine ex_cons ?_ | refine ex_If ?_)
    exact ⟨rfl, rfl, Ext.refl _, rfl⟩
  case fin =>
    intro os' ys he hy hp
    have e := hp.map (f := id) (fun a _ b h => h)
    rw [List.map_id, List.filter_map] at e
    repeat' (first | tb_start | with_reducible first | refine ex_cons ?_ | refine ex_If ?_)
    refine h os' _ ((Ext.app _ _).trans he) (by simp; lsm_bools) ?_
    rw [hy, e]; rfl
-- VN
theorem wp_storeL' {W : Wd} {c : Cx} {st : St} {M : Model} {A : Around} {ρ : List Addr} {s : Shared} {E : Value → Shared → Prop} {x : Str} {a : AV} {v : Value} {R : Unit → Shared → Prop} (r : Rp W c ρ st s) (hv : a.rel ρ v) (hk : c.scope.names.lookup x = some .local)
    (h : ∀ s', Rp W c ρ { st with m := putM x a st.m } s' → R () s') : wpAny M A (storeName c.env x v) R E s := by
  obtain ⟨Mm, hn, hl⟩ := r.ns
  refine wpAny_storeName_local (env := c.env) hk hn (fun h' hn' hs => h _ (r.setLocal hv hl hn' hs)) ?_
  show (c.scope.kind == .class || (c.scope.kind == .module && c.L != mainGlobals)) = false
  rw [r.ok.kind]; rfl

noncomputable def putAll : List (Str × AV) → List (Str × AV) → List (Str × AV)
  | [], m => m
  | (x, a) :: r, m => putAll r (putM x a m)

theorem putM_new {x : Str} {a : AV} : ∀ {m : List (Str × AV)}, x ∉ m.map (·.1) → putM x a m = m ++ [(x, a)]
  | [], _ => rfl
  | (y, b) :: r, h => by
    simp only [List.map_cons, List.mem_cons, not_or] at h
    have : (x == y) = false := by simpa using h.1
    simp only [putM, this, Bool.false_eq_true, if_false, putM_new h.2, List.cons_append]
theorem putAll_eq : ∀ {l m : List (Str × AV)}, ((m ++ l).map (·.1)).Nodup → putAll l m = m ++ l
  | [], m, _ => by simp [putAll]
  | (x, a) :: r, m, h => by
    have hx : x ∉ m.map (·.1) := by
      intro hm
      rw [List.map_append, List.nodup_append] at h
      exact h.2.2 x hm x (by simp) rfl
    rw [putAll, putM_new hx, putAll_eq (by simpa using h)]
    simp

theorem wp_binds {W : Wd} {c : Cx} {M : Model} {A : Around} {E : Value → Shared → Prop} {R : PUnit → Shared → Prop} {ρ : List Addr} (f : Str × Value → PUnit → Sem (ForInStep PUnit)) (hf : ∀ n v u, f (n, v) u = (do storeName c.env n v; pure (.yield ⟨⟩))) :
    ∀ (m0 : List (Str × AV)) (binds : List (Str × Value)) (st : St) (s : Shared), Rp W c ρ st s → MRel ρ m0 binds → (∀ y ∈ m0.map (·.1), c.scope.names.lookup y = some .local) →
    (∀ s', Rp W c ρ { st with m := putAll m0 st.m } s' → R ⟨⟩ s') → wpAny M A (forIn binds ⟨⟩ f) R E s := by
  intro m0
  induction m0 with
  | nil => intro binds st s r hb _ h; cases hb; rw [List.forIn_nil]; exact wpAny_pure (h s r)
  | cons p m0 ih =>
    obtain ⟨x, a⟩ := p
    intro binds st s r hb hl h
    obtain ⟨v, b', rfl, hv, hb⟩ := hb
    rw [List.forIn_cons, hf]
    refine wpAny_bind (wpAny_bind (wp_storeL' r hv (hl x (by simp)) fun s' r' => wpAny_pure ?_))
    exact ih b' _ s' r' hb (fun y hy => hl y (by simp at hy ⊢; exact .inr hy)) h

section
variable {W : Wd} {c c' : Cx} {st st' : St} {ρ ρ' : List Addr} {s s' : Shared}

/-- a call of a function that has cells -/
theorem call_fnC {f : Addr} {as : List AV} {m0 : List (Str × AV)} {Q : AV → St → Prop} {name qual : Str} {params : Arguments} {body : List Stmt} {scope : Scope} {dV kV doc pm cdv ct oc : Value} {an od : Option Addr} {osl : Array (Option Value)}
    (ho : W.K.lookup f = some ⟨oc, od, .func (fnOf name qual params body scope dV kV doc pm an cdv ct), osl⟩) (hcd : codeIn W.K cdv qual = true) (hroom : 1 ≤ c.room)
    (hb : ∀ ρ s vs, W.K.In s.heap → VRel ρ as vs → ∃ binds, BindsTo s (fnOf name qual params body scope dV kV doc pm an cdv ct) ⟨vs, []⟩ binds ∧ MRel ρ m0 binds)
    (hm : (m0.map (·.1)).Nodup) (hloc : ∀ y ∈ m0.map (·.1), scope.names.lookup y = some .local)
    (hco : scope.isCoroutine = false) (hgen : scope.isGenerator = false) (hk : scope.kind = .function)
    (h : ∀ c' : Cx, c'.scope = scope → c'.cl = newCl scope.names st.os.length [] → c'.room + 1 = c.room → Ex W c' { m := m0, os := st.os ++ newCells scope.names, gn := st.gn } (execs body c'.env)
      (RetQ st.m Q)) :
    CallV W c st (.ref f) as Q := fun ρ s E vs r hv => by
  obtain ⟨binds, hbt, hbr⟩ := hb ρ s vs r.X hv
  obtain ⟨mg, mb, T⟩ := r.ok.T
  refine wpAny_call (codeAny_call_function (body := body) (by have := r.ok.dep; lsm_bools) (r.X _ _ ho) rfl hco hgen rfl (codeRec_of r.X hcd) (hbt _ _ _ _ ?_))
  show wpAny _ _ (newFunctionEnv scope mainGlobals [] binds (qual ++ ".<locals>.") (some f) cdv none builtinsNs) _ _ s
  simp only [newFunctionEnv, Option.isSome_none, Bool.false_eq_true, if_false]
  refine wpAny_bind (wpAny_alloc ?_)
  let c0 : Cx := { A := c.A.deeper (callEnv (fnOf name qual params body scope dV kV doc pm an cdv ct) s.heap.objs.size f), g := hideAll s.heap ρ, room := c.room - 1, L := s.heap.objs.size, scope := scope, cells := [], qual := qual ++ ".<locals>.", func := some f, code := cdv, frame := some s.heap.objs.size, cl := [], os0 := c.os0 }
  have r0 : Rp W { c0 with cells := [], cl := [] } ρ ⟨[], st.os, st.gn⟩ { s with heap := s.heap.push { cls := .type "frame", data := .dict #[] } } := by
    refine ⟨r.ok.enter (A := c0.A) (env := callEnv (fnOf name qual params body scope dV kV doc pm an cdv ct) s.heap.objs.size f) r hroom rfl hk rfl rfl (by show c.room - 1 + 1 = c.room; lsm_bools), ⟨_, Heap.Ns.new s.heap (.type "frame"), fun x a e => (by cases e)⟩, fun b o e => Heap.get?_push_of_some _ (of_hideAll _ e), Nat.le_of_eq (hideAll_size _ _), ⟨r.objs.len, fun k o e => ?_⟩, fun a ha => ⟨Nat.ne_of_lt (r.lt ha), hideAll_none _ ha⟩, r.nodup, fun x k e => (by cases e), r.gens, r.os⟩
    obtain ⟨a, ob, e1, e2, e3⟩ := r.objs.at_ k o e
    exact ⟨a, ob, e1, Heap.get?_push_of_some _ e2, e3⟩
  refine wpAny_bind (wpAny_mono (wp_cells (R := fun cells' s' => ∃ ρ', Rp W { c0 with cells := cells', cl := newCl scope.names st.os.length [] } (ρ ++ ρ') ⟨[], st.os ++ newCells scope.names, st.gn⟩ s') c0 scope.names ρ _ _ [] [] r0 fun cells' s' ρ' r' => ⟨ρ', r'⟩) (fun cells' s' ⟨ρ', r'⟩ => ?_) fun _ _ x => x)
  let e1 : Env := { scope := scope, locals := s.heap.objs.size, globals := mainGlobals, cells := cells', qual := qual ++ ".<locals>.", func := some f, code := cdv, frame := some s.heap.objs.size, builtins := builtinsNs }
  have r' : Rp W { c0 with cells := cells', cl := newCl scope.names st.os.length [], A := c.A.deeper e1 } (ρ ++ ρ') ⟨[], st.os ++ newCells scope.names, st.gn⟩ s' :=
    ⟨⟨r'.ok.X, r'.ok.T, r'.ok.kind, r'.ok.dep, r'.ok.un, r'.ok.hd⟩, r'.ns, r'.keep, r'.above, r'.objs, r'.fresh, r'.nodup, r'.cells, r'.gens, r'.os⟩
  generalize hc1 : ({ c0 with cells := cells', cl := newCl scope.names st.os.length [], A := c.A.deeper e1 } : Cx) = c1 at r'
  have hE : ({ scope := scope, locals := s.heap.objs.size, globals := mainGlobals, cells := cells', qual := qual ++ ".<locals>.", func := some f, code := cdv, frame := some s.heap.objs.size, builtins := builtinsNs } : Env) = c1.env := by rw [← hc1]; rfl
  refine wpAny_bind (wp_binds (c := c1) _ (fun n v u => by rw [← hE]) m0 binds _ s' r' ?_ (by rw [← hc1]; exact hloc) fun s2 r2 => wpAny_pure ?_)
  · have mm : ∀ {m : List (Str × AV)} {b : List (Str × Value)}, MRel ρ m b → MRel (ρ ++ ρ') m b := by
      intro m
      induction m with
      | nil => intro b h; exact h
      | cons p m ih => intro b ⟨v, b', e, h, q⟩; exact ⟨v, b', e, h.mono, ih q⟩
    exact mm hbr
  · have hp : putAll m0 [] = m0 := by rw [putAll_eq (by simpa using hm)]; rfl
    rw [show ({ m := ([] : List (Str × AV)), os := st.os ++ newCells scope.names, gn := st.gn } : St).m = [] from rfl, hp] at r2
    rw [hE]
    have hk2 : ∀ b o, c.g.get? b = some o → s2.heap.get? b = some o := fun b o e => r2.keep b o (by rw [← hc1]; exact r.keepH b o e)
    refine ⟨T.nolimit.keeps hk2, codeAny_func ?_⟩
    have hA : c.A.deeper c1.env = c1.A := by rw [← hc1]; rfl
    rw [hA]
    refine wpAny_mono (h c1 (by rw [← hc1]) (by rw [← hc1]) (by rw [← hc1]; show c.room - 1 + 1 = c.room; lsm_bools) (ρ ++ ρ') s2 _ r2) (fun fl s3 p => ?_) fun _ _ x => x
    obtain ⟨ρ3, fa, st3, r3, hf, hq⟩ := p
    rw [List.append_assoc] at r3 hf
    have rb := r.leave r3 (by rw [← hc1]) (by rw [← hc1])
    cases fa with
    | next => cases hf; exact Post.on hq rb rfl
    | ret a => obtain ⟨u, e, hu⟩ := hf; subst e; exact Post.on hq rb hu
    | brk => exact hq.elim
    | cont => exact hq.elim

theorem call_posC {f : Addr} (m0 : List (Str × AV)) {Q : AV → St → Prop} {name qual : Str} {params : Arguments} {body : List Stmt} {scope : Scope} {dV kV doc pm cdv ct oc : Value} {an od : Option Addr} {osl : Array (Option Value)}
    (ho : W.K.lookup f = some ⟨oc, od, .func (fnOf name qual params body scope dV kV doc pm an cdv ct), osl⟩) (hcd : codeIn W.K cdv qual = true) (hroom : 1 ≤ c.room)
    (hb : ∀ vs : List Value, vs.length = m0.length → bindArgs (fnOf name qual params body scope dV kV doc pm an cdv ct) ⟨vs, []⟩ = pure ((m0.map (·.1)).zip vs))
    (hm : (m0.map (·.1)).Nodup) (hloc : ∀ y ∈ m0.map (·.1), scope.names.lookup y = some .local)
    (hco : scope.isCoroutine = false) (hgen : scope.isGenerator = false) (hk : scope.kind = .function)
    (h : ∀ c' : Cx, c'.scope = scope → c'.cl = newCl scope.names st.os.length [] → c'.room + 1 = c.room → Ex W c' { m := m0, os := st.os ++ newCells scope.names, gn := st.gn } (execs body c'.env)
      (RetQ st.m Q)) :
    CallV W c st (.ref f) (m0.map (·.2)) Q :=
  call_fnC ho hcd hroom (fun ρ s vs _ hv => ⟨_, BindsTo.of_eq (hb vs (by have := hv.length; simpa using this)), MRel.zip hv⟩) hm hloc hco hgen hk h

/-! displays -/
theorem ev_List {elts : List Expr} {pos : Pos} {Q : AV → St → Prop} (h : Evs W c st (spliced (backTo pos (starEach elts c.env))) (fun as st1 => as.length ≤ 1000 ∧ Q (.obj st1.os.length) { st1 with os := st1.os ++ [.list as] })) :
    Ev W c st (eval (.List elts pos) c.env) Q := fun ρ s E r => wpAny_List (wp_on h r fun ρ1 as st1 vs s1 r1 ra ⟨hz, h1⟩ => ⟨by have := ra.length; unfold sizeLine; lsm_bools, Post.ext (Post.new (n := s1.toks) r1 (o := .list as) ⟨vs, 0, rfl, ra⟩ rfl h1)⟩)
theorem ev_Tuple {elts : List Expr} {k : Nat} {pos : Pos} {Q : AV → St → Prop} (h : Evs W c st (spliced (backTo pos (starEach elts c.env))) (fun as st1 => as.length ≤ 1000 ∧ Q (.obj st1.os.length) { st1 with os := st1.os ++ [.tup as] })) :
    Ev W c st (eval (.Tuple elts k pos) c.env) Q := fun ρ s E r => wpAny_Tuple (wp_on h r fun ρ1 as st1 vs s1 r1 ra ⟨hz, h1⟩ => ⟨by have := ra.length; unfold sizeLine; lsm_bools, Post.ext (Post.new (n := s1.toks) r1 (o := .tup as) ⟨vs, 0, rfl, ra⟩ rfl h1)⟩)

/-- rows of strings -/
noncomputable def RowsAt (os : List AO) : List AV → List (List Str) → Prop
  | [], rs => rs = []
  | a :: as, rs => ∃ j xs rs', a = .obj j ∧ rs = xs :: rs' ∧ os[j]? = some (.list (xs.map AV.str)) ∧ RowsAt os as rs'
theorem RowsAt.length {os : List AO} {as : List AV} {rs : List (List Str)} (h : RowsAt os as rs) : rs.length = as.length := by
  induction as generalizing rs with
  | nil => cases h; rfl
  | cons a as ih => obtain ⟨_, _, _, _, rfl, _, r⟩ := h; exact congrArg (· + 1) (ih r)
theorem RowsAt.mono {os os' : List AO} (he : Ext os os') {as : List AV} {rs : List (List Str)} (h : RowsAt os as rs) : RowsAt os' as rs := by
  induction as generalizing rs with
  | nil => exact h
  | cons a as ih => obtain ⟨j, xs, rs', e1, e2, h, r⟩ := h; exact ⟨j, xs, rs', e1, e2, he _ _ h, ih r⟩
theorem RowsAt.get {os : List AO} {as : List AV} {rs : List (List Str)} {i : Nat} {a : AV} (h : RowsAt os as rs) (e : as[i]? = some a) : ∃ j xs, a = .obj j ∧ rs[i]? = some xs ∧ os[j]? = some (.list (xs.map AV.str)) := by
  induction as generalizing rs i with
  | nil => cases e
  | cons b as ih =>
    obtain ⟨j, xs, rs', e1, rfl, h, r⟩ := h
    cases i with
    | zero => cases e; exact ⟨j, xs, e1, rfl, h⟩
    | succ i => have q := ih r e; exact q
theorem RowsAt.reads {ρ : List Addr} {s : Shared} (r : Rp W c ρ st s) {as : List AV} {vs : List Value} {rs : List (List Str)} (h : RowsAt st.os as rs) (hv : VRel ρ as vs) : ∃ bs, ReadsAll s.heap vs (rs.map fun xs => PyData.list (xs.map PyData.str)) bs := by
  induction as generalizing vs rs with
  | nil => cases h; cases hv; exact ⟨[], .nil⟩
  | cons b as ih =>
    obtain ⟨j, xs, rs', rfl, rfl, h, hr⟩ := h
    obtain ⟨v, ws, rfl, hv, hw⟩ := hv
    obtain ⟨bs, hb⟩ := ih hr hw
    obtain ⟨a, us, n, rfl, h1, h2, h3⟩ := r.list h hv
    obtain ⟨l, rfl, e4⟩ := h3.strs
    have h5 : Reads s.heap (.ref a) (.list (xs.map PyData.str)) [a] := by
      have := Reads.list (as := []) h2 rfl rfl (by rw [List.toList_toArray]; exact reads_strs s.heap l)
      rw [e4] at this; exact this
    exact ⟨_, .cons h5 hb⟩

theorem lay_rows (rs : List (List Str)) (h : ∀ xs ∈ rs, (∀ x ∈ xs, okS x) ∧ xs.length ≤ 100) (hz : rs.length ≤ 10) : (PyData.list (rs.map fun xs => PyData.list (xs.map PyData.str))).layable0 = true := by
  have a1 : ∀ ys : List Str, (∀ x ∈ ys, okS x) → PyData.canLayAll0 (ys.map PyData.str) = true := by
    intro ys
    induction ys with
    | nil => intro _; rfl
    | cons y ys ih => intro h; simp [PyData.canLayAll0, PyData.canLay0, (h y (by simp)).1, ih fun x hx => h x (by simp [hx])]
  have a2 : ∀ ys : List Str, PyData.depthAll (ys.map PyData.str) = 0 := by
    intro ys
    induction ys with
    | nil => rfl
    | cons y ys ih => simp [PyData.depthAll, PyData.depth, ih]
  have a3 : ∀ ys : List Str, (∀ x ∈ ys, okS x) → PyData.weightAll (ys.map PyData.str) ≤ 1001 * ys.length := by
    intro ys
    induction ys with
    | nil => intro _; simp [PyData.weightAll]
    | cons y ys ih =>
      intro h
      have := ih fun x hx => h x (by simp [hx])
      have := (h y (by simp)).2
      have e : y.cps.size = y.length := rfl
      simp only [List.map_cons, PyData.weightAll, PyData.weight, List.length_cons]
      lsm_bools
  have b1 : ∀ rs : List (List Str), (∀ xs ∈ rs, (∀ x ∈ xs, okS x) ∧ xs.length ≤ 100) → PyData.canLayAll0 (rs.map fun xs => PyData.list (xs.map PyData.str)) = true ∧ PyData.depthAll (rs.map fun xs => PyData.list (xs.map PyData.str)) ≤ 1 ∧ PyData.weightAll (rs.map fun xs => PyData.list (xs.map PyData.str)) ≤ 100101 * rs.length := by
    intro rs
    induction rs with
    | nil => intro _; exact ⟨rfl, Nat.zero_le _, Nat.zero_le _⟩
    | cons xs rs ih =>
      intro h
      obtain ⟨i1, i2, i3⟩ := ih fun x hx => h x (by simp [hx])
      obtain ⟨h1, h2⟩ := h xs (by simp)
      have h3 := a3 xs h1
      refine ⟨?_, ?_, ?_⟩
      · simp only [List.map_cons, PyData.canLayAll0, PyData.canLay0, a1 xs h1, i1]; rfl
      · simp only [List.map_cons, PyData.depthAll, PyData.depth, a2]; lsm_bools
      · simp only [List.map_cons, PyData.weightAll, PyData.weight, List.length_cons]; lsm_bools
  obtain ⟨b1, b2, b3⟩ := b1 rs h
  have h5 : PyData.weightAll (rs.map fun xs => PyData.list (xs.map PyData.str)) ≤ 2 ^ 20 := Nat.le_trans b3 (Nat.le_trans (Nat.mul_le_mul_left _ hz) (by decide))
  unfold PyData.layable0
  simp only [PyData.canLay0, b1, PyData.depth, PyData.weight, Bool.and_eq_true]
  exact ⟨⟨trivial, decide_eq_true (by lsm_bools)⟩, decide_eq_true h5⟩

theorem op_eqNil {j k : Nat} {as : List AV} {rs : List (List Str)} {Q : AV → St → Prop} (hj : st.os[j]? = some (.list as)) (hk : st.os[k]? = some (.list [])) (hr : RowsAt st.os as rs) (h : ∀ xs ∈ rs, (∀ x ∈ xs, okS x) ∧ xs.length ≤ 100) (hz : rs.length ≤ 10)
    (hq : Q (.bool as.isEmpty) st) : Op2 W c VR st (.obj j) (.obj k) (compareOp .Eq) Q := fun ρ s E v u r hv hu => by
  obtain ⟨a, ws, n, e1, h1, h2, h3⟩ := r.list hj hv
  obtain ⟨b, ws', n', e1', h1', h2', h3'⟩ := r.list hk hu
  subst e1; subst e1'; cases h3'
  obtain ⟨bs, hb⟩ := RowsAt.reads r hr h3
  have un := r.ok.un
  refine eq_dataS (Reads.list h2 rfl rfl (by rw [List.toList_toArray]; exact hb)) (Reads.list (xs := []) h2' rfl rfl (by rw [List.toList_toArray]; exact .nil)) (lay_rows rs h hz) (by decide) (by lsm_bools) ?_
  have e : PyData.eqv (.list (rs.map fun xs => PyData.list (xs.map PyData.str))) (.list []) = as.isEmpty := by
    have := hr.length
    cases as with
    | nil => cases hr; simp [PyData.eqv, PyData.eqvAll]
    | cons a as => cases rs with
      | nil => simp at this
      | cons x rs => simp [PyData.eqv, PyData.eqvAll]
  rw [e]
  exact Post.here hq r rfl
end
-- HL
section
variable {α : Type} [DecidableEq α]
noncomputable def lcpG : List α → List α → List α
  | x :: xs, y :: ys => if x = y then x :: lcpG xs ys else []
  | _, _ => []
noncomputable def lcpA : List (List α) → List α
  | [] => []
  | r :: rs => rs.foldl lcpG r
theorem pre_lcp (p : List α) : ∀ a b : List α, p <+: lcpG a b ↔ p <+: a ∧ p <+: b := by
  induction p with
  | nil => intro a b; simp
  | cons x p ih =>
    intro a b
    cases a with
    | nil => simp [lcpG]
    | cons y a =>
      cases b with
      | nil => simp [lcpG]
      | cons z b =>
        by_cases h : y = z
        · subst h
          simp only [lcpG, if_true, List.cons_prefix_cons, ih]
          constructor
          · rintro ⟨h1, h2, h3⟩; exact ⟨⟨h1, h2⟩, h1, h3⟩
          · rintro ⟨⟨h1, h2⟩, _, h3⟩; exact ⟨h1, h2, h3⟩
        · simp only [lcpG, if_neg h, List.cons_prefix_cons]
          constructor
          · intro h'; simp at h'
          · rintro ⟨⟨h1, _⟩, h2, _⟩; exact absurd (h1.symm.trans h2) h
theorem pre_fold (p : List α) : ∀ (rs : List (List α)) (r : List α), p <+: rs.foldl lcpG r ↔ p <+: r ∧ ∀ x ∈ rs, p <+: x
  | [], r => by simp
  | y :: rs, r => by
    rw [List.foldl_cons, pre_fold p rs, pre_lcp]
    simp [and_assoc]
theorem pre_lcpA (p : List α) (rs : List (List α)) (h : rs ≠ []) : p <+: lcpA rs ↔ ∀ x ∈ rs, p <+: x := by
  cases rs with
  | nil => exact absurd rfl h
  | cons r rs => rw [lcpA, pre_fold]; simp
theorem pre_ext {a b : List α} (h : ∀ p : List α, p <+: a ↔ p <+: b) : a = b := by
  have h1 : a <+: b := (h a).mp (List.prefix_refl a)
  have h2 : b <+: a := (h b).mpr (List.prefix_refl b)
  exact h1.eq_of_length_le h2.length_le
theorem lcpA_pre {rs : List (List α)} {x : List α} (h : x ∈ rs) : lcpA rs <+: x := (pre_lcpA _ rs (List.ne_nil_of_mem h)).mp (List.prefix_refl _) x h
theorem pre_take {p x : List α} (h : p <+: x) : p = x.take p.length := List.prefix_iff_eq_take.mp h
/-- one more place -/
theorem lcpA_more {r : List α} {rs : List (List α)} {n : Nat} (hn : n ≤ (lcpA (r :: rs)).length) :
    (∀ x ∈ r :: rs, x.take (n + 1) = r.take (n + 1) ∧ n < x.length) ↔ n < (lcpA (r :: rs)).length := by
  constructor
  · intro h
    have hr := h r (by simp)
    have : r.take (n + 1) <+: lcpA (r :: rs) := by
      rw [pre_lcpA _ _ (by simp)]
      intro x hx
      rw [← (h x hx).1]
      exact List.take_prefix _ _
    have := this.length_le
    rw [List.length_take] at this
    lia
  · intro h x hx
    have p1 := lcpA_pre hx
    have p2 : lcpA (r :: rs) <+: r := lcpA_pre (by simp)
    have e1 := pre_take p1
    have e2 := pre_take p2
    have hl := p1.length_le
    refine ⟨?_, by lia⟩
    have : ∀ y : List α, lcpA (r :: rs) = y.take (lcpA (r :: rs)).length → y.take (n + 1) = (lcpA (r :: rs)).take (n + 1) := by
      intro y hy
      rw [hy, List.take_take]
      congr 1
      lia
    rw [this x e1, this r e2]
theorem lcpA_take {r : List α} {rs : List (List α)} : r.take (lcpA (r :: rs)).length = lcpA (r :: rs) := (pre_take (lcpA_pre (by simp))).symm
theorem lcpA_perm_pre {rs ss : List (List α)} (hr : rs ≠ []) (hs : ss ≠ []) (h : ∀ p, (∀ x ∈ rs, p <+: x) ↔ (∀ x ∈ ss, p <+: x)) : lcpA rs = lcpA ss :=
  pre_ext fun p => by rw [pre_lcpA p rs hr, pre_lcpA p ss hs]; exact h p
end
-- ES
noncomputable def relab (scope outer : Scope) : Scope := { scope with names := scope.names.map fun (n, k) => if (k == .free && outer.kind == .function && outer.names.lookup n == some .cell) then (n, .cell) else (n, k) }
theorem Inl.sc {c c' : Cx} {scope o : Scope} {cl : List (Str × Nat)} (h : Inl c c' scope cl) (e : c.scope = o) : c'.scope = relab scope o := by
  rw [h.scope, ← e]; rfl
/-- a cell, where it is known -/
local macro_rules | `(tactic| kat_tups) => rows1 "ev_cell CaKR"
local macro_rules | `(tactic| kat_tups) => rows1 "ev_List,ev_Tuple"
theorem compOk1 {names : List (Str × NameKind)} {cl : List (Str × Nat)} {x : Str} {k : Nat} (h1 : (names.all fun y => y.2 != .local || names.lookup y.1 == some .local) = true) (h2 : (names.all fun p => p.2 != .free || (cl.lookup p.1).isSome) = true) (h3 : names.contains (x, NameKind.free) = true) (h4 : cl.lookup x = some k) : compOk names cl [(x, k)] = true := by
  unfold compOk
  rw [h1, h2, List.all_cons, h3, h4, List.all_nil]
  simp
theorem compOk2 {names : List (Str × NameKind)} {cl : List (Str × Nat)} {x y : Str} {k j : Nat} (h1 : (names.all fun y => y.2 != .local || names.lookup y.1 == some .local) = true) (h2 : (names.all fun p => p.2 != .free || (cl.lookup p.1).isSome) = true) (h3 : names.contains (x, NameKind.free) = true) (h4 : cl.lookup x = some k)
    (h5 : names.contains (y, NameKind.free) = true) (h6 : cl.lookup y = some j) : compOk names cl [(x, k), (y, j)] = true := by
  unfold compOk
  rw [h1, h2, List.all_cons, List.all_cons, h3, h4, h5, h6, List.all_nil]
  simp
theorem RowsAt.set {os : List AO} {k : Nat} {v : Option AV} {o : AO} (hk : os[k]? = some (.cell v)) {as : List AV} {rs : List (List Str)} (h : RowsAt os as rs) : RowsAt (os.set k o) as rs := by
  induction as generalizing rs with
  | nil => exact h
  | cons a as ih => obtain ⟨j, xs, rs', e1, e2, h, r⟩ := h; exact ⟨j, xs, rs', e1, e2, set_get_ne h (by intro q; subst q; rw [hk] at h; cases h), ih r⟩
theorem RowsAt.ofPr {os : List AO} {f : Str → List Str} {n : Nat} {xs : List Str} {ys : List AV} (h : Pr (fun a y => ∃ x j, a = .str x ∧ y = .obj j ∧ n < j ∧ os[j]? = some (.list ((f x).map AV.str))) (xs.map AV.str) ys) : RowsAt os ys (xs.map f) := by
  generalize e : xs.map AV.str = zs at h
  induction h generalizing xs with
  | nil => rw [List.map_eq_nil_iff.mp e]; rfl
  | cons h _ ih =>
    obtain ⟨x, j, rfl, e2, _, h3⟩ := h
    obtain ⟨x', xs', rfl, e3, e4⟩ := List.map_eq_cons_iff.mp e
    cases e3
    exact ⟨j, _, _, e2, rfl, h3, ih e4⟩
theorem RowsAt.filter {os : List AO} (p : AV → Bool) : ∀ {as : List AV} {rs : List (List Str)}, RowsAt os as rs → ∃ rs', RowsAt os (as.filter p) rs' ∧ (∀ x ∈ rs', x ∈ rs) ∧ rs'.length ≤ rs.length
  | [], _, h => by cases h; exact ⟨[], rfl, fun _ h => h, Nat.le_refl _⟩
  | a :: as, _, ⟨j, xs, rs', e1, e2, h, r⟩ => by
    obtain ⟨q, h1, h2, h3⟩ := RowsAt.filter p r
    subst e2
    by_cases hp : p a = true
    · rw [List.filter_cons_of_pos hp]
      exact ⟨xs :: q, ⟨j, xs, q, e1, rfl, h, h1⟩, fun x hx => by rcases List.mem_cons.mp hx with rfl | hx <;> simp [*], by simp; lsm_bools⟩
    · rw [List.filter_cons_of_neg hp]
      exact ⟨q, h1, fun x hx => by simp [h2 x hx], by simp; lsm_bools⟩
theorem sl_strs {W : Wd} {c : Cx} {st : St} {k : Nat} {r : List Str} {n : Nat} {i : Int} {Q : AV → St → Prop} (hi : i = (n : Int)) (hk : st.os[k]? = some (.list (r.map AV.str))) (hz : r.length ≤ 100000) (h : Q (.obj st.os.length) { st with os := st.os ++ [.list ((r.take n).map AV.str)] }) :
    ∃ T id, typeLookup (.type T) "__getitem__" = pure (some (.builtin id)) ∧ SliceR W c st T (.obj k) .none (.int i) Q :=
  ⟨"list", _, list_getitem_lookup, by subst hi; exact sl_list hk (by rw [List.length_map]; exact hz) (by rw [← List.map_take]; exact h)⟩
theorem app_at {os : List AO} {o : AO} : (os ++ [o])[os.length]? = some o := by simp
theorem map_str_inj {xs ys : List Str} (h : xs.map AV.str = ys.map AV.str) : xs = ys := by
  induction xs generalizing ys with
  | nil => cases ys with
    | nil => rfl
    | cons y ys => simp at h
  | cons x xs ih => cases ys with
    | nil => simp at h
    | cons y ys => simp only [List.map_cons, List.cons.injEq, AV.str.injEq] at h; rw [h.1, ih h.2]
theorem parts_sub (x : Str) (w : Nat) : ∀ (cuts : List Nat) (a : Nat), ∀ p ∈ PySem.StrLaws.partsFrom x w a cuts, ∃ i j, p = Builtin.Str.strSub x i j
  | [], a, p, h => by simp [PySem.StrLaws.partsFrom] at h; exact ⟨_, _, h⟩
  | c :: r, a, p, h => by
    simp only [PySem.StrLaws.partsFrom, List.mem_cons] at h
    rcases h with h | h
    · exact ⟨_, _, h⟩
    · exact parts_sub x w r _ p h
theorem strOk_sub {x : Str} (h : PyData.strOk x = true) (i j : Nat) : PyData.strOk (Builtin.Str.strSub x i j) = true := by
  have e := PySem.StrLaws.strSub_toList x i j
  unfold PyData.strOk at *
  rw [Array.all_eq_true_iff_forall_mem] at *
  intro y hy
  have : y ∈ (Builtin.Str.strSub x i j).cps.toList := by simpa using hy
  rw [e] at this
  exact h y (by simpa using List.mem_of_mem_drop (List.mem_of_mem_take this))
theorem split_ok {x y : Str} (h : PyData.strOk x = true) : ∀ p ∈ Txt.split x y, PyData.strOk p = true := by
  intro p hp
  unfold Txt.split at hp
  split at hp
  · simp at hp; rw [hp]; exact h
  · split at hp
    · simp at hp; rw [hp]; exact h
    · rw [PySem.StrLaws.partsBetween_eq] at hp
      obtain ⟨i, j, rfl⟩ := parts_sub x _ _ _ p hp
      exact strOk_sub h i j
theorem names_ok {xs : List Str} (hx : ∀ x ∈ xs, okS x ∧ x.length ≤ 90) : ∀ r ∈ xs.map namesOf, r.length ≤ 100 ∧ ∀ x ∈ r, okS x := by
  intro r hr
  obtain ⟨x, hxx, rfl⟩ := List.mem_map.mp hr
  obtain ⟨h1, h2⟩ := hx x hxx
  refine ⟨?_, fun y hy => ?_⟩
  · have := split_len x (Str.ofString "/")
    have := List.length_filter_le (fun y => !decide (y = Str.ofString "")) (Txt.split x (Str.ofString "/"))
    unfold namesOf; lsm_bools
  · have hm := (List.mem_filter.mp hy).1
    exact ⟨split_ok h1.1 y hm, by have := part_short hm; lsm_bools⟩
inductive ShE (st : St) (k m : Nat) (rows : List (List Str)) (ys : List AV) (st5 : St) : Prop
  | mk (h1 : st5.m = [(Str.ofString "places", .obj k)]) (h2 : st5.gn = st.gn) (h3 : Ext st.os st5.os) (h4 : st5.os[st.os.length]? = some (.cell (some (.obj m)))) (h5 : st5.os[st.os.length + 1]? = some (.cell (some (.int ((lcpA rows).length : Nat))))) (h6 : st5.os[m]? = some (.list ys)) (h7 : RowsAt st5.os ys rows)
inductive ShIB (st : St) (k m : Nat) (rows : List (List Str)) (ys : List AV) (t : Nat) (st5 : St) (sz : Nat) : Prop
  | mk (h1 : t + sz = (lcpA rows).length) (h2 : st5.m = [(Str.ofString "places", .obj k)]) (h3 : st5.gn = st.gn) (h4 : Ext st.os st5.os) (h5 : st5.os[st.os.length]? = some (.cell (some (.obj m)))) (h6 : st5.os[st.os.length + 1]? = some (.cell (some (.int (sz : Nat))))) (h7 : st5.os[m]? = some (.list ys)) (h8 : RowsAt st5.os ys rows)
noncomputable abbrev ShI (st : St) (k m : Nat) (rows : List (List Str)) (ys : List AV) (t : Nat) (st5 : St) : Prop := ∃ (sz : Nat), ShIB st k m rows ys t st5 sz
theorem spec_shared {w : World} {c : Cx} {st : St} {k : Nat} {xs : List Str} {Q : AV → St → Prop} (hr : 3 ≤ c.room) (hk : st.os[k]? = some (.list (xs.map AV.str))) (hx : ∀ x ∈ xs, okS x ∧ x.length ≤ 90) (hz : xs.length ≤ 10) (h0 : xs ≠ [])
    (h : ∀ (os' : List AO), Ext st.os os' → Q (.str (Str.ofString "/" ++ Str.join (Str.ofString "/") (lcpA (xs.map namesOf)))) { st with os := os' }) : CallV (WW w) c st (.ref 894) [.obj k] Q := by
  (refine' call_posC (m0 := [(Str.ofString "places", .obj k)]) ?ho ?hcd ?room ?hb ?hm ?hloc ?c1 ?c2 ?c3 ?_; (case ho => (((try dsimp only [WW]); k_is))); (case hcd => (((try dsimp only [WW]); k_is))); (case c1 => exact rfl); (case c2 => exact rfl); (case c3 => exact rfl); (case hm => (simp only [List.map_cons, List.map_nil]; decide)); (case hloc => (simp only [List.map_cons, List.map_nil]; decide)); (case room => lsm_bools); (case hb => first | (refine hb1 ?_; intro a; kernel_rfl) | (refine hb2 ?_; intro a b; kernel_rfl) | (refine hb3 ?_; intro a b d; kernel_rfl)))
  intro c' hs hcl hrm
  have hcl : c'.cl = [(Str.ofString "size", st.os.length + 1), (Str.ofString "rows", st.os.length)] := hcl
  generalize ho0 : st.os ++ newCells _ = os0
  have ho0 : os0 = st.os ++ [.cell none, .cell none] := ho0.symm
  have he0 : Ext st.os os0 := by rw [ho0]; exact Ext.app _ _
  have hc0 : os0[st.os.length]? = some (.cell none) := by rw [ho0]; simp
  have hd0 : os0[st.os.length + 1]? = some (.cell none) := by rw [ho0]; simp
  have hk0 := he0 _ _ hk
  refine ex_cons ?_
  refine ex_AssignC (swaps_LC hs rfl (by decide)) (by rw [hs]; rfl) (by rw [hcl]; rfl) ?_
  refine ev_LC [] (fun _ => rfl) (fun _ _ => rfl) rfl (by rw [hcl]; rfl) ?_
  repeat' tb_start
  refine' comp_src [] (fun _ => true) (fun os a y => ∃ x j, a = .str x ∧ y = .obj j ∧ os0.length + 1 < j ∧ os[j]? = some (.list ((namesOf x).map AV.str))) ?hc ?hx ?hz ?hit ?src ?hF ?turn ?fin
  case hc => decide
  case hx => exact lookup_relabel_local rfl
  case hit => exact fun Q h => it_list hk0 h
  case src => exact src_list hk0
  case hz => rw [List.length_map]; lsm_bools
  case hF => rintro os os' a y hh ⟨x, j, e1, e2, e3, e4⟩; exact ⟨x, j, e1, e2, e3, hh _ _ e3 e4⟩
  case turn =>
    intro c2 os i a hin ha he hl
    obtain ⟨y, hy, rfl⟩ := strs_get ha
    have hsc := hin.sc hs
    have hcl2 := hin.cl
    have hrm2 := hin.room
    refine tsts_nil ⟨rfl, rfl, rfl, Ext.refl _, fun _ => ?_⟩
    repeat' (first | tb_start | with_reducible first | refine ex_cons ?_ | refine ex_If ?_)
    refine spec_names (by lsm_bools) (hx y hy).1 ?_
    intro os' j he' hj h'
    exact ⟨rfl, rfl, he', y, j, rfl, rfl, by simp only at hl hj; lsm_bools, h'⟩
  case fin =>
    intro os1 ys he1 hy1 hp1
    rw [List.filter_eq_self.mpr (fun _ _ => rfl)] at hp1
    have hrows := RowsAt.ofPr hp1
    have hlen := hrows.length
    generalize hm : os0.length + 1 = m at *
    have hc1 := he1 _ _ hc0
    have hd1 := he1 _ _ hd0
    refine ⟨⟨_, hc1⟩, seq_next ?_⟩
    dsimp only
    have hc2 := set_get (o' := .cell (some (.obj m))) hc1
    have hd2 := set_get_ne (o' := .cell (some (.obj m))) hd1 (show st.os.length ≠ st.os.length + 1 by lsm_bools)
    have hy2 := set_get_ne (o' := .cell (some (.obj m))) hy1 (show st.os.length ≠ m by have := congrArg List.length ho0; simp at this; lsm_bools)
    have hr2 := hrows.set (o := .cell (some (.obj m))) hc1
    have he2 : Ext st.os (os1.set st.os.length (.cell (some (.obj m)))) := (he0.trans he1).set (Nat.le_refl _)
    generalize os1.set st.os.length (.cell (some (.obj m))) = os2 at *
    refine ex_cons ?_
    refine ex_AssignC rfl (by rw [hs]; rfl) (by rw [hcl]; rfl) ?_
    refine ev_int ⟨⟨_, hd2⟩, seq_next ?_⟩
    dsimp only
    have hc3 := set_get_ne (o' := .cell (some (.int 0))) hc2 (show st.os.length + 1 ≠ st.os.length by lsm_bools)
    have hd3 := set_get (o' := .cell (some (.int 0))) hd2
    have hy3 := set_get_ne (o' := .cell (some (.int 0))) hy2 (show st.os.length + 1 ≠ m by have := congrArg List.length ho0; simp at this; lsm_bools)
    have hr3 := hr2.set (o := .cell (some (.int 0))) hd2
    have he3 : Ext st.os (os2.set (st.os.length + 1) (.cell (some (.int 0)))) := he2.set (by lsm_bools)
    generalize os2.set (st.os.length + 1) (.cell (some (.int 0))) = os3 at *
    have hrows_ok : ∀ r ∈ xs.map namesOf, r.length ≤ 100 ∧ ∀ x ∈ r, okS x := names_ok hx
    generalize hrw : xs.map namesOf = rows at *
    obtain ⟨row0, rest, hrow⟩ : ∃ r rs, rows = r :: rs := by
      cases xs with
      | nil => exact absurd rfl h0
      | cons x xs => exact ⟨_, _, hrw.symm⟩
    refine ex_cons ?_
    refine ex_J (ShE st k m rows ys) ?_ ?_
    · refine ex_While (ShI st k m rows ys) (lcpA rows).length ?_ ?_
      · exact ⟨0, by lsm_bools, rfl, rfl, he3, hc3, hd3, hy3, hr3⟩
      · rintro t ⟨mm, os, gg⟩ ⟨sz, ht, rfl, rfl, hee, hcc, hdd, hyy, hrr⟩
        dsimp only at hee hcc hdd hyy hrr
        refine tt_Compare (by with_unfolding_all rfl) ?_
        refine ev_LC [(Str.ofString "rows", st.os.length), (Str.ofString "size", st.os.length + 1)] (fun _ => rfl) (fun _ _ => rfl) rfl (by rw [hcl]; exact compOk2 rfl rfl rfl rfl rfl rfl) ?_
        repeat' tb_start
        have hsub : ∀ (a : AV) (i : Nat), ys[i]? = some a → ∃ j r, a = .obj j ∧ r ∈ rows ∧ os[j]? = some (.list (r.map AV.str)) := by
          intro a i e
          obtain ⟨j, r, e1, e2, e3⟩ := hrr.get e
          exact ⟨j, r, e1, List.mem_of_getElem? e2, e3⟩
        classical
        refine' comp_src [(Str.ofString "rows", st.os.length), (Str.ofString "size", st.os.length + 1)] (fun a => decide (∃ (j : Nat) (r : List Str), a = .obj j ∧ os[j]? = some (.list (r.map AV.str)) ∧ ¬ (r.take (sz + 1) = row0.take (sz + 1) ∧ sz < r.length))) (fun _ a y => y = a) ?hc ?hx ?hz ?hit ?src ?hF ?turn ?fin
        case hc => decide
        case hx => exact lookup_relabel_local rfl
        case hit => exact fun Q h => it_list hyy h
        case src => exact src_list hyy
        case hz => have e1 := congrArg List.length hrw; simp at e1; lsm_bools
        case hF => exact fun _ _ _ _ _ h => h
        case turn =>
          intro c2 os5 i a hin ha he hl
          obtain ⟨j, r, rfl, hrm, hj⟩ := hsub a i ha
          have hsc := hin.sc hs
          have hcl2 := hin.cl
          have hj5 := he _ _ hj
          have hcc5 := he _ _ hcc
          have hdd5 := he _ _ hdd
          have hyy5 := he _ _ hyy
          obtain ⟨j0, hj0, hj05⟩ : ∃ j0, ys[0]? = some (.obj j0) ∧ os5[j0]? = some (.list (row0.map AV.str)) := by
            have : ∃ a, ys[0]? = some a := by
              have : 0 < ys.length := by rw [← hlen, hrow]; simp
              exact ⟨ys[0], by rw [List.getElem?_eq_getElem]⟩
            obtain ⟨a, e⟩ := this
            obtain ⟨j0, r0, e1, e2, e3⟩ := hrr.get e
            rw [hrow] at e2; simp at e2; subst e2; subst e1
            exact ⟨j0, e, he _ _ e3⟩
          refine tsts_one ?_
          refine tt_Or ?_
          refine tt_Compare (by with_unfolding_all rfl) ?_
          refine ev_SubSlice ?_
          repeat' tb_start
          refine ev_part0 ?_
          refine ev_part1 ?_
          repeat' tb_start
          have hrl : r.length ≤ 100 ∧ (∀ x ∈ r, okS x) := hrows_ok r hrm
          have hrl0 : row0.length ≤ 100 ∧ (∀ x ∈ row0, okS x) := hrows_ok row0 (by rw [hrow]; simp)
          refine sl_strs (n := sz + 1) (by push_cast; rfl) hj5 (by lsm_bools) ?_
          refine ev_SubSlice ?_
          have hccA := Ext.app os5 [.list ((r.take (sz + 1)).map AV.str)] _ _ hcc5
          have hddA := Ext.app os5 [.list ((r.take (sz + 1)).map AV.str)] _ _ hdd5
          repeat' tb_start
          refine sub_list (Ext.app os5 [.list ((r.take (sz + 1)).map AV.str)] _ _ hyy5) (fun _ _ => rfl) (by decide) (by decide) hj0 ?_
          refine ev_part0 ?_
          refine ev_part1 ?_
          repeat' tb_start
          refine sl_strs (n := sz + 1) (by push_cast; rfl) (Ext.app os5 [.list ((r.take (sz + 1)).map AV.str)] _ _ hj05) (by lsm_bools) ?_
          dsimp only
          have q1 : (os5 ++ [AO.list ((r.take (sz + 1)).map AV.str)] ++ [AO.list ((row0.take (sz + 1)).map AV.str)])[os5.length]? = some (.list ((r.take (sz + 1)).map AV.str)) := idx_app app_at
          have q2 : (os5 ++ [AO.list ((r.take (sz + 1)).map AV.str)] ++ [AO.list ((row0.take (sz + 1)).map AV.str)])[(os5 ++ [AO.list ((r.take (sz + 1)).map AV.str)]).length]? = some (.list ((row0.take (sz + 1)).map AV.str)) := app_at
          have hee6 : Ext os5 (os5 ++ [AO.list ((r.take (sz + 1)).map AV.str)] ++ [AO.list ((row0.take (sz + 1)).map AV.str)]) := (Ext.app _ _).trans (Ext.app _ _)
          have hpa : ∀ (b : Bool), (b = true ↔ ¬ (r.take (sz + 1) = row0.take (sz + 1) ∧ sz < r.length)) → b = decide (∃ (j_1 : Nat) (r : List Str), AV.obj j = .obj j_1 ∧ os[j_1]? = some (.list (r.map AV.str)) ∧ ¬ (r.take (sz + 1) = row0.take (sz + 1) ∧ sz < r.length)) := by
            intro b hb
            rw [Bool.eq_iff_iff, hb, decide_eq_true_iff]
            constructor
            · intro h; exact ⟨j, r, rfl, hj, h⟩
            · rintro ⟨j1, r1, e1, e2, e3⟩
              cases e1
              rw [hj] at e2
              have := map_str_inj (AO.list.inj (Option.some.inj e2))
              rw [this]; exact e3
          refine op_neL q1 q2 (fun x hx => hrl.2 x (List.mem_of_mem_take hx)) (fun x hx => hrl0.2 x (List.mem_of_mem_take hx)) (by simp; lsm_bools) (by simp; lsm_bools) ?_
          refine ⟨_, rfl, ?_, ?_⟩
          · intro hq
            refine ⟨hpa _ ⟨fun _ hc => ?_, fun _ => rfl⟩, rfl, rfl, hee6, fun _ => ?_⟩
            · simp [hc.1] at hq
            · repeat' (first | tb_start | with_reducible first | refine ex_cons ?_ | refine ex_If ?_)
              exact ⟨rfl, rfl, Ext.refl _, rfl⟩
          · intro hq
            have hq' : r.take (sz + 1) = row0.take (sz + 1) := by simpa using hq
            have hdd6 := hee6 _ _ hdd5
            refine tt_Or ?_
            refine tt_Compare (by with_unfolding_all rfl) ?_
            repeat' tb_start
            refine call_lenL (hee6 _ _ hj5) (by rw [List.length_map]; lsm_bools) ?_
            repeat' tb_start
            refine ⟨fun hq2 => ?_, fun hq2 => ?_⟩
            · refine ⟨hpa _ ⟨fun _ hc => ?_, fun _ => rfl⟩, rfl, rfl, hee6, fun _ => ?_⟩
              · have := hc.2; rw [List.length_map] at hq2; simp at hq2; lsm_bools
              · repeat' (first | tb_start | with_reducible first | refine ex_cons ?_ | refine ex_If ?_)
                exact ⟨rfl, rfl, Ext.refl _, rfl⟩
            · refine tt_Or0 ⟨hpa _ ⟨fun hf => (by cases hf), fun hc => ?_⟩, rfl, rfl, hee6, fun hf => (by cases hf)⟩
              exfalso
              refine hc ⟨hq', ?_⟩
              rw [List.length_map] at hq2; simp at hq2; lsm_bools
        case fin =>
          intro os6 zs he6 hz6 hp6
          have hzs := hp6.map (f := id) (fun a _ b h => h)
          rw [List.map_id] at hzs
          have hlo : os.length + 1 = os.length + 1 := rfl
          dsimp only at he6 hz6
          repeat' tb_start
          refine ⟨by simp, ?_⟩
          obtain ⟨rs', hr6, hin6, hl6⟩ := RowsAt.filter (fun a => decide (∃ (j : Nat) (r : List Str), a = .obj j ∧ os[j]? = some (.list (r.map AV.str)) ∧ ¬ (r.take (sz + 1) = row0.take (sz + 1) ∧ sz < r.length))) (hrr.mono (he6.trans (Ext.app _ [AO.list []])))
          rw [← hzs] at hr6
          refine op_eqNil (idx_app hz6) app_at hr6 (fun x hx => ?_) ?_ ?_
          · obtain ⟨h1, h2⟩ := hrows_ok x (hin6 x hx); exact ⟨h2, h1⟩
          · have e1 := congrArg List.length hrw; simp at e1; lsm_bools
          refine ⟨_, rfl, fun hq => ?_, fun hq => ?_⟩
          · have hall : ∀ r ∈ row0 :: rest, r.take (sz + 1) = row0.take (sz + 1) ∧ sz < r.length := by
              intro r hr
              rw [← hrow] at hr
              obtain ⟨i, hi, e⟩ := List.getElem_of_mem hr
              have hi2 : i < ys.length := by lsm_bools
              obtain ⟨j, r1, e1, e2, e3⟩ := hrr.get (i := i) (a := ys[i]) (by rw [List.getElem?_eq_getElem])
              have : r1 = r := by rw [List.getElem?_eq_getElem hi, e] at e2; exact (Option.some.inj e2).symm
              subst this
              have hemp : zs = [] := by simpa using hq
              rw [hzs] at hemp
              rw [List.filter_eq_nil_iff] at hemp
              have := hemp _ (List.getElem_mem hi2)
              simp only [decide_eq_true_eq, not_exists] at this
              have := this j r1
              by_cases hc : r1.take (sz + 1) = row0.take (sz + 1) ∧ sz < r1.length
              · exact hc
              · exact absurd ⟨e1, e3, hc⟩ this
            have hlt : sz < (lcpA rows).length := by rw [hrow]; exact (lcpA_more (by rw [← hrow]; lsm_bools)).mp hall
            have he7 : Ext os (os6 ++ [AO.list []]) := he6.trans (Ext.app _ _)
            have hd7 := he7 _ _ hdd
            have hc7 := he7 _ _ hcc
            have hy7 := he7 _ _ hyy
            have hr7 := hrr.mono he7
            have he8 := hee.trans he7
            generalize os6 ++ [AO.list []] = os7 at *
            refine ex_cons ?_
            refine ex_AssignC rfl (by rw [hs]; rfl) (by rw [hcl]; rfl) ?_
            repeat' tb_start
            refine ⟨⟨_, hd7⟩, seq_next (ex_nil ?_)⟩
            dsimp only
            refine ⟨t - 1, by lsm_bools, sz + 1, by lsm_bools, rfl, rfl, he8.set (by lsm_bools), ?_, ?_, ?_, hr7.set hd7⟩
            · exact set_get_ne hc7 (by lsm_bools)
            · exact set_get hd7
            · exact set_get_ne hy7 (by have := congrArg List.length ho0; simp at this; lsm_bools)
          · have hnot : ¬ sz < (lcpA rows).length := by
              intro hlt
              rw [hrow] at hlt
              have := (lcpA_more (by rw [← hrow]; lsm_bools)).mpr hlt
              have hne : zs ≠ [] := by intro e; rw [e] at hq; simp at hq
              apply hne
              rw [hzs, List.filter_eq_nil_iff]
              intro a ha hc
              simp only [decide_eq_true_eq] at hc
              obtain ⟨j, r, rfl, e2, e3⟩ := hc
              obtain ⟨i, hi, e⟩ := List.getElem_of_mem ha
              obtain ⟨j', r', e4, e5, e6⟩ := hsub (.obj j) i (by rw [← e, List.getElem?_eq_getElem])
              cases e4
              rw [e2] at e6
              have := map_str_inj (AO.list.inj (Option.some.inj e6))
              subst this
              exact e3 (by have := (lcpA_more (by rw [← hrow]; lsm_bools)).mpr hlt; exact this r (by rw [← hrow]; exact e5))
            have : sz = (lcpA rows).length := by lsm_bools
            have he7 : Ext os (os6 ++ [AO.list []]) := he6.trans (Ext.app _ _)
            refine ex_nil ⟨rfl, rfl, rfl, hee.trans he7, he7 _ _ hcc, ?_, he7 _ _ hyy, hrr.mono he7⟩
            rw [← this]; exact he7 _ _ hdd
    · rintro ⟨mm, os, gg⟩ ⟨rfl, rfl, hee, hcc, hdd, hyy, hrr⟩
      dsimp only at hee hcc hdd hyy hrr
      obtain ⟨j0, hj0, hj05⟩ : ∃ j0, ys[0]? = some (.obj j0) ∧ os[j0]? = some (.list (row0.map AV.str)) := by
        have : ∃ a, ys[0]? = some a := by
          have : 0 < ys.length := by rw [← hlen, hrow]; simp
          exact ⟨ys[0], by rw [List.getElem?_eq_getElem]⟩
        obtain ⟨a, e⟩ := this
        obtain ⟨j0, r0, e1, e2, e3⟩ := hrr.get e
        rw [hrow] at e2; simp at e2; subst e2; subst e1
        exact ⟨j0, e, e3⟩
      have hrl0 : row0.length ≤ 100 ∧ (∀ x ∈ row0, okS x) := hrows_ok row0 (by rw [hrow]; simp)
      have htk : row0.take (lcpA rows).length = lcpA rows := by rw [hrow]; exact lcpA_take
      refine seq_next (ex_cons (ex_Return ?_))
      repeat' tb_start
      refine getM_str PySem.F.slot_str_join PySem.F.type_str_join ?_
      refine ev_args_cons rfl ?_
      refine ev_SubSlice ?_
      repeat' tb_start
      refine sub_list hyy (fun _ _ => rfl) (by decide) (by decide) hj0 ?_
      refine ev_part0 ?_
      refine ev_part1 ?_
      repeat' tb_start
      refine sl_strs (n := (lcpA rows).length) rfl hj05 (by lsm_bools) ?_
      rw [htk]
      repeat' tb_start
      have hlc : ∀ x ∈ lcpA rows, okS x := fun x hx => hrl0.2 x (by rw [← htk] at hx; exact List.mem_of_mem_take hx)
      have hll : (lcpA rows).length ≤ 100 := by rw [← htk, List.length_take]; lsm_bools
      have hsum : ((lcpA rows).map (·.length)).sum ≤ (lcpA rows).length * 1000 := PySem.StrLaws.sumLen_le _ fun y hy => (hlc y hy).2
      have hsum2 : (lcpA rows).length * (Str.ofString "/").length ≤ 100 * 1 := Nat.mul_le_mul hll (by decide)
      refine call_join app_at (by lsm_bools) ?_
      refine op_addS (by have := PySem.StrLaws.join_length_le (Str.ofString "/") (lcpA rows); have : (Str.ofString "/").length = 1 := rfl; lsm_bools) ?_
      refine seq_ret ?_
      exact h _ (hee.trans (Ext.app _ _))
-- VO
section
variable {W : Wd}
inductive CcI (st1 : St) (itS : Nat → AO) (l : List AV) (p : AV → Bool) (F : List AO → AV → AV → Prop) (n : Nat) (st : St) : Prop
  | mk (i : Nat) (ys : List AV) (v : Option AV) (h1 : n + i = l.length + 1) (h2 : i ≤ l.length) (h3 : st.gn = st1.gn) (h4 : st.m = []) (h5 : Ext st1.os st.os) (h6 : st.os[st1.os.length]? = some (itS i)) (h7 : st.os[st1.os.length + 1]? = some (.list ys)) (h8 : st.os[st1.os.length + 2]? = some (.cell v)) (h9 : Pr (F st.os) ((l.take i).filter p) ys)
theorem comp_srcC {c : Cx} {st1 : St} {x : Str} {px : Pos} {elt : Expr} {ifs : List Expr} {scope : Scope} {Q : AV → St → Prop} (fcl : List (Str × Nat)) {v : AV} {itS : Nat → AO} {l : List AV} (p : AV → Bool) (F : List AO → AV → AV → Prop)
    (hc : newCells scope.names = [.cell none]) (hcl : newCl scope.names (st1.os.length + 2) fcl = (x, st1.os.length + 2) :: fcl) (hx : (relabel scope c.env).names.lookup x = some .cell) (hz : l.length ≤ 100000)
    (hit : ∀ Q : AV → St → Prop, Q (.obj st1.os.length) { st1 with os := st1.os ++ [itS 0] } → It W c st1 v Q) (src : Source W st1.os st1.os.length itS l)
    (hF : ∀ (os os' : List AO) (a y : AV), (∀ (j : Nat) (o : AO), st1.os.length + 2 < j → os[j]? = some o → os'[j]? = some o) → F os a y → F os' a y)
    (turn : ∀ (c' : Cx) (os : List AO) (i : Nat) (a : AV), Inl c c' scope ((x, st1.os.length + 2) :: fcl) → l[i]? = some a → Ext st1.os os → os[st1.os.length + 2]? = some (.cell (some a)) →
      Tsts W c' ⟨[], os, st1.gn⟩ ifs (fun b st5 => b = p a ∧ st5.m = [] ∧ st5.gn = st1.gn ∧ Ext os st5.os ∧
        (b = true → Ev W c' st5 (eval elt c'.env) (fun y st6 => st6.m = [] ∧ st6.gn = st1.gn ∧ Ext st5.os st6.os ∧ F st6.os a y))))
    (hQ : ∀ (os' : List AO) (ys : List AV), Ext st1.os os' → os'[st1.os.length + 1]? = some (.list ys) → Pr (F os') (l.filter p) ys → Q (.obj (st1.os.length + 1)) { st1 with os := os' }) :
    It W c st1 v (CompGo W c (.Name x px) elt ifs scope fcl Q) := by
  refine hit _ ⟨st1.os.length, rfl, fun c' hin => ?_⟩
  have el : (st1.os ++ [itS 0]).length = st1.os.length + 1 := by simp
  have hin : Inl c c' scope ((x, st1.os.length + 2) :: fcl) := by
    have e9 : newCl scope.names ((st1.os ++ [itS 0]).length + 1) fcl = (x, st1.os.length + 2) :: fcl := by rw [el]; exact hcl
    rw [← e9]; exact hin
  rw [hc]
  have e0 : st1.os ++ [itS 0] ++ [AO.list [], AO.cell none] = st1.os ++ [itS 0, .list [], .cell none] := by simp
  have hI0 : CcI st1 itS l p F (l.length + 1) ⟨[], st1.os ++ [itS 0] ++ [AO.list [], AO.cell none], st1.gn⟩ := by
    refine ⟨0, [], none, rfl, Nat.zero_le _, rfl, rfl, ?_, ?_, ?_, ?_, .nil⟩
    · rw [e0]; exact Ext.app _ _
    · show (st1.os ++ [itS 0] ++ [AO.list [], AO.cell none])[_]? = _
      rw [e0, List.getElem?_append_right (Nat.le_refl _)]; simp
    · show (st1.os ++ [itS 0] ++ [AO.list [], AO.cell none])[_]? = _
      rw [e0, List.getElem?_append_right (by lsm_bools)]; simp
    · show (st1.os ++ [itS 0] ++ [AO.list [], AO.cell none])[_]? = _
      rw [e0, List.getElem?_append_right (by lsm_bools)]; simp
  refine ⟨CcI st1 itS l p F, l.length + 1, src.two c' _ _ ?_ ⟨rfl, hI0⟩, hI0, fun n st hI => ?_⟩
  · show (st1.os ++ [itS 0] ++ [AO.list [], AO.cell none])[_]? = _
    rw [e0, List.getElem?_append_right (Nat.le_refl _)]; simp
  · obtain ⟨i, ys, v, hn, hil, hgn, hm, hext, hit, hacc, hcell, hpr⟩ := hI
    obtain ⟨m, os, gn⟩ := st
    have hlen : st1.os.length + 3 ≤ os.length := by have := (List.getElem?_eq_some_iff.mp hcell).1; simp only at this; lsm_bools
    simp only at hgn hm hext hit hacc hpr hcell
    subst hgn; subst hm
    refine src.nx c' _ i _ hit hext (fun a ha => ?_) (fun hnone o => ?_) hil
    · -- one more
      have hlt : i < l.length := (List.getElem?_eq_some_iff.mp ha).1
      have hcell1 : (os.set st1.os.length (itS (i + 1)))[st1.os.length + 2]? = some (.cell v) := by rw [List.getElem?_set_ne (by lsm_bools)]; exact hcell
      refine as_NameC (k := st1.os.length + 2) (o := v) (by rw [hin.scope]; exact hx) (by rw [hin.cl]; simp) hcell1 ?_
      generalize ho2 : (os.set st1.os.length (itS (i + 1))).set (st1.os.length + 2) (.cell (some a)) = os2
      have hext1 : Ext st1.os os2 := by rw [← ho2]; exact (hext.set (Nat.le_refl _)).set (by lsm_bools)
      have hF1 : ∀ a y, F os a y → F os2 a y := fun a y => hF _ _ a y fun j o hj e => by rw [← ho2, List.getElem?_set_ne (by lsm_bools), List.getElem?_set_ne (by lsm_bools)]; exact e
      have hcell2 : os2[st1.os.length + 2]? = some (.cell (some a)) := by rw [← ho2]; exact List.getElem?_set_self (by simp; lsm_bools)
      have hacc2 : os2[st1.os.length + 1]? = some (.list ys) := by rw [← ho2, List.getElem?_set_ne (by lsm_bools), List.getElem?_set_ne (by lsm_bools)]; exact hacc
      have hit2 : os2[st1.os.length]? = some (itS (i + 1)) := by rw [← ho2, List.getElem?_set_ne (by lsm_bools)]; exact List.getElem?_set_self (by lsm_bools)
      show Tsts W c' ⟨[], os2, st1.gn⟩ ifs _
      refine EvK.mono (turn c' os2 i a hin ha hext1 hcell2) ?_
      rintro b st5 ⟨hb, hm5, hg5, he5, hev⟩
      refine ⟨fun hbt => ?_, fun hbf => ?_⟩
      · refine EvK.mono (hev hbt) ?_
        rintro y st6 ⟨hm6, hg6, he6, hf6⟩
        have hacc6 := he6 _ _ (he5 _ _ hacc2)
        have hys : ys.length ≤ 100000 := by rw [hpr.length]; exact Nat.le_trans (List.length_filter_le ..) (by simp; lsm_bools)
        show ∃ l', st6.os[(st1.os ++ [itS 0]).length]? = _ ∧ _ ∧ ∃ m, m < n ∧ CcI st1 itS l p F m { st6 with os := st6.os.set (st1.os ++ [itS 0]).length _ }
        rw [el]
        refine ⟨ys, hacc6, hys, n - 1, by lsm_bools, i + 1, ys ++ [y], some a, by lsm_bools, by lsm_bools, hg6, hm6, ((hext1.trans he5).trans he6).set (by lsm_bools), ?_, ?_, ?_, ?_⟩
        · show (st6.os.set _ _)[_]? = _
          rw [List.getElem?_set_ne (by lsm_bools)]
          exact he6 _ _ (he5 _ _ hit2)
        · exact List.getElem?_set_self (List.getElem?_eq_some_iff.mp hacc6).1
        · show (st6.os.set _ _)[_]? = _
          rw [List.getElem?_set_ne (by lsm_bools)]
          exact he6 _ _ (he5 _ _ hcell2)
        · have hb : p a = true := by rw [← hb]; exact hbt
          rw [take_snoc ha, List.filter_append]
          have e1 : List.filter p [a] = [a] := by simp [hb]
          rw [e1]
          have up2 : ∀ z a y, F st6.os a y → F (st6.os.set (st1.os.length + 1) (.list (ys ++ [z]))) a y := fun z a y => hF _ _ a y fun j o hj e => by rw [List.getElem?_set_ne (by lsm_bools)]; exact e
          refine Pr.snoc (hpr.mono fun a y h => up2 _ _ _ (hF _ _ _ _ (fun j o _ e => he6 j o (he5 j o e)) (hF1 _ _ h))) (up2 _ _ _ hf6)
      · have hb : p a = false := by rw [← hb]; exact hbf
        refine ⟨n - 1, by lsm_bools, i + 1, ys, some a, by lsm_bools, by lsm_bools, hg5, hm5, hext1.trans he5, he5 _ _ hit2, he5 _ _ hacc2, he5 _ _ hcell2, ?_⟩
        rw [take_snoc ha, List.filter_append]
        have e1 : List.filter p [a] = [] := by simp [hb]
        rw [e1, List.append_nil]
        exact hpr.mono fun a y h => hF _ _ _ _ (fun j o _ e => he5 j o e) (hF1 _ _ h)
    · -- the end
      have hi : i = l.length := by have : l.length ≤ i := by simpa using hnone
                                   lsm_bools
      show Q (.obj (st1.os ++ [itS 0]).length) _
      rw [el]
      refine hQ _ ys (hext.set (Nat.le_refl _)) (by rw [List.getElem?_set_ne (by lsm_bools)]; exact hacc) ?_
      rw [hi, List.take_length] at hpr
      exact hpr.mono fun a y => hF _ _ a y fun j o hj e => by rw [List.getElem?_set_ne (by lsm_bools)]; exact e
end

section
variable {W : Wd} {c : Cx} {st : St}
theorem op_floordiv {x y : Int} {Q : AV → St → Prop} (h0 : y ≠ 0) (hy : y.natAbs < 1073741824) (h : Q (.int (x.fdiv y)) st) : Op2 W c VR st (.int x) (.int y) (binaryOp .FloorDiv) Q := fun ρ s E v u r ⟨t, e⟩ ⟨t', e'⟩ => by
  subst e; subst e'; exact floordiv_int h0 (Post.here h (r.toks _) ⟨_, rfl⟩) (Or.inl (PyProof.noPylong_small hy))
theorem op_mod {x y : Int} {Q : AV → St → Prop} (h0 : y ≠ 0) (h : Q (.int (x.fmod y)) st) : Op2 W c VR st (.int x) (.int y) (binaryOp .Mod) Q := fun ρ s E v u r ⟨t, e⟩ ⟨t', e'⟩ => by
  subst e; subst e'; exact mod_int' h0 (Post.here h (r.toks _) ⟨_, rfl⟩)
theorem op_pow {x y : Int} {Q : AV → St → Prop} (h0 : 0 ≤ y) (h1 : y ≤ 1000000) (hx : x.natAbs < 2 ^ 64) (h : Q (.int (x ^ y.toNat)) st) : Op2 W c VR st (.int x) (.int y) (binaryOp .Pow) Q := fun ρ s E v u r ⟨t, e⟩ ⟨t', e'⟩ => by
  subst e; subst e'; exact pow_int_small h0 h1 hx (Post.here h (r.toks _) ⟨_, rfl⟩)
theorem call_range1 {n : Int} {Q : AV → St → Prop} (h : Q (.obj st.os.length) { st with os := st.os ++ [rangeO 0 n 1] }) : CallV W c st (.type "range") [.int n] Q := fun ρ s E vs r ⟨v, _, e, ⟨t, ev⟩, e'⟩ => by
  subst e; subst e'; subst ev
  exact call_range_1 (Post.new r (o := rangeO 0 n 1) ⟨_, _, _, rfl⟩ rfl h)
theorem it_rangeN {k n : Nat} {Q : AV → St → Prop} (hk : st.os[k]? = some (rangeO 0 (n : Int) 1)) (hn : n ≤ 100000) (h : Q (.obj st.os.length) { st with os := st.os ++ [rgO ((0 : Nat) : Int) ((n : Int) - ((0 : Nat) : Int)) 1] }) : It W c st (.obj k) Q := by
  have e : Builtin.Range.rangeSize 0 (n : Int) 1 = (n : Int) := by
    unfold Builtin.Range.rangeSize
    rw [if_pos (by decide)]
    by_cases q : (0 : Int) < n
    · rw [if_pos q]; simp
    · rw [if_neg q]; lsm_bools
  refine it_range hk ?_ ?_
  · unfold Builtin.Range.small
    rw [e]
    unfold Builtin.Range.rangeFitsLong
    simp
    lsm_bools
  · rw [e]
    have : (n : Int) - ((0 : Nat) : Int) = n := by simp
    rw [this] at h
    exact h
end
-- EP
noncomputable def menuL : List Str := [Str.ofString "a", Str.ofString "b", Str.ofString "it's", Str.ofString "a b"]
noncomputable def nameAt (x : Int) (k : Nat) : Str := menuL.getD (((x.fdiv 3).fdiv ((4 : Int) ^ k)).fmod 4).toNat (Str.ofString "a")
theorem nameAt_mem (x : Int) (k : Nat) : nameAt x k ∈ menuL := by
  unfold nameAt
  have h := Int.fmod_lt_of_pos ((x.fdiv 3).fdiv ((4 : Int) ^ k)) (show (0 : Int) < 4 by decide)
  have h' := Int.fmod_nonneg_of_pos ((x.fdiv 3).fdiv ((4 : Int) ^ k)) (show (0 : Int) < 4 by decide)
  generalize ((x.fdiv 3).fdiv ((4 : Int) ^ k)).fmod 4 = z at *
  have : z = 0 ∨ z = 1 ∨ z = 2 ∨ z = 3 := by lsm_bools
  rcases this with rfl | rfl | rfl | rfl
  · exact List.mem_cons_self
  · exact List.mem_cons_of_mem _ List.mem_cons_self
  · exact List.mem_cons_of_mem _ (List.mem_cons_of_mem _ List.mem_cons_self)
  · exact List.mem_cons_of_mem _ (List.mem_cons_of_mem _ (List.mem_cons_of_mem _ List.mem_cons_self))
theorem menu_len : ∀ y ∈ menuL, y.length ≤ 4 := by decide
theorem nameAt_len (x : Int) (k : Nat) : (nameAt x k).length ≤ 4 := menu_len _ (nameAt_mem x k)
noncomputable def namesNum (x : Int) : List Str := (List.range (2 + x.fmod 3).toNat).map (nameAt x)
noncomputable def placeNum (x : Int) : Str := Str.join (Str.ofString "") ((namesNum x).map fun y => Str.ofString "/" ++ y)
theorem fm1 {z : Int} (h : 0 ≤ z ∧ z < 3) : 2 + z = (((2 + z).toNat : Nat) : Int) := (Int.toNat_of_nonneg (Int.add_nonneg (by decide) h.1)).symm
theorem fm2 {z : Int} {q : Nat} (h : 0 ≤ z ∧ z < 3) (hq : q < (2 + z).toNat) : q < 4 := by
  have h1 := Int.ofNat_lt.mpr hq
  rw [← fm1 h] at h1
  lia
theorem fm3 {z : Int} (h : 0 ≤ z ∧ z < 3) : (2 + z).toNat ≤ 4 := by lia
theorem fm4 {q : Nat} (h : q < 4) : q = 0 ∨ q = 1 ∨ q = 2 ∨ q = 3 := by
  cases q with
  | zero => exact .inl rfl
  | succ q => cases q with
    | zero => exact .inr (.inl rfl)
    | succ q => cases q with
      | zero => exact .inr (.inr (.inl rfl))
      | succ q => cases q with
        | zero => exact .inr (.inr (.inr rfl))
        | succ q => exact absurd h (Nat.not_lt.mpr (Nat.le_add_left 4 q))
theorem spec_places {w : World} {c : Cx} {st : St} {k : Nat} {ns : List Int} {Q : AV → St → Prop} (hr : 3 ≤ c.room) (hk : st.os[k]? = some (.list (ns.map AV.int))) (hz : ns.length ≤ 10)
    (h : ∀ (os' : List AO) (j : Nat), Ext st.os os' → st.os.length ≤ j → os'[j]? = some (.list ((ns.map placeNum).map AV.str)) → Q (.obj j) { st with os := os' }) : CallV (WW w) c st (.ref 884) [.obj k] Q := by
  (refine' call_posC (m0 := [(Str.ofString "numbers", .obj k)]) ?ho ?hcd ?room ?hb ?hm ?hloc ?c1 ?c2 ?c3 ?_; (case ho => (((try dsimp only [WW]); k_is))); (case hcd => (((try dsimp only [WW]); k_is))); (case c1 => exact rfl); (case c2 => exact rfl); (case c3 => exact rfl); (case hm => (simp only [List.map_cons, List.map_nil]; decide)); (case hloc => (simp only [List.map_cons, List.map_nil]; decide)); (case room => lsm_bools); (case hb => first | (refine hb1 ?_; intro a; kernel_rfl) | (refine hb2 ?_; intro a b; kernel_rfl) | (refine hb3 ?_; intro a b d; kernel_rfl)))
  intro c' hs hcl hrm
  have hcl : c'.cl = [(Str.ofString "menu", st.os.length)] := hcl
  generalize ho0 : st.os ++ newCells _ = os0
  have ho0 : os0 = st.os ++ [.cell none] := ho0.symm
  have he0 : Ext st.os os0 := by rw [ho0]; exact Ext.app _ _
  have hc0 : os0[st.os.length]? = some (.cell none) := by rw [ho0]; simp
  have hk0 := he0 _ _ hk
  refine ex_cons ?_
  refine ex_AssignC rfl (by rw [hs]; rfl) (by rw [hcl]; rfl) ?_
  repeat' tb_start
  refine ⟨by decide, ⟨_, idx_app hc0⟩, seq_next ?_⟩
  dsimp only
  have hm1 : (os0 ++ [AO.list (menuL.map AV.str)])[os0.length]? = some (.list (menuL.map AV.str)) := app_at
  have hc1 : (os0 ++ [AO.list (menuL.map AV.str)])[st.os.length]? = some (.cell none) := idx_app hc0
  have hm2 := set_get_ne (o' := .cell (some (.obj os0.length))) hm1 (show st.os.length ≠ os0.length by rw [ho0]; simp)
  have hc2 := set_get (o' := .cell (some (.obj os0.length))) hc1
  have he2 : Ext st.os ((os0 ++ [AO.list (menuL.map AV.str)]).set st.os.length (.cell (some (.obj os0.length)))) := (he0.snoc).set (Nat.le_refl _)
  generalize hg : ((os0 ++ [AO.list (menuL.map AV.str)]).set st.os.length (.cell (some (.obj os0.length)))) = os2 at *
  show Ex _ _ ⟨_, (os0 ++ [AO.list (menuL.map AV.str)]).set st.os.length (.cell (some (.obj os0.length))), _⟩ _ _
  rw [hg]
  have hk2 := he2 _ _ hk
  refine ex_cons (ex_Return ?_)
  refine ev_LC [(Str.ofString "menu", st.os.length)] (fun _ => rfl) (fun _ _ => rfl) rfl (by rw [hcl]; exact compOk1 rfl rfl rfl rfl) ?_
  repeat' tb_start
  refine' comp_srcC [(Str.ofString "menu", st.os.length)] (fun _ => true) (fun os a y => ∃ x, a = .int x ∧ y = .str (placeNum x)) ?hc ?hcl ?hx ?hz ?hit ?src ?hF ?turn ?fin
  case hit => exact fun Q h => it_list hk2 h
  case src => exact src_list hk2
  case hz => rw [List.length_map]; lsm_bools
  case hc => rfl
  case hcl => rfl
  case hx => (show (relab _ c'.scope).names.lookup _ = _); rw [hs]; rfl
  case hF => exact fun _ _ _ _ _ h => h
  case turn =>
    intro c2 os i a hin ha he hl
    dsimp only at hin he hl
    obtain ⟨x, hxm, rfl⟩ : ∃ x, x ∈ ns ∧ a = .int x := by
      have := List.mem_of_getElem? ha
      simp at this
      obtain ⟨y, hy, e⟩ := this
      exact ⟨y, hy, e.symm⟩
    have hsc := hin.sc hs
    have hcl2 := hin.cl
    have hc2' := he _ _ hc2
    have hm2' := he _ _ hm2
    have hmod : 0 ≤ x.fmod 3 ∧ x.fmod 3 < 3 := ⟨Int.fmod_nonneg_of_pos x (by decide), Int.fmod_lt_of_pos x (by decide)⟩
    have hN : 2 + x.fmod 3 = (((2 + x.fmod 3).toNat : Nat) : Int) := fm1 hmod
    have hN4 := fm3 hmod
    refine tsts_nil ⟨rfl, rfl, rfl, Ext.refl _, fun _ => ?_⟩
    repeat' tb_start
    refine getM_str PySem.F.slot_str_join PySem.F.type_str_join ?_
    refine ev_args_cons rfl ?_
    refine ev_LC [(Str.ofString "menu", st.os.length), (Str.ofString "x", os2.length + 2)] (fun _ => rfl) (fun _ _ => rfl) rfl (by rw [hcl2]; exact compOk2 rfl rfl rfl rfl rfl rfl) ?_
    repeat' tb_start
    refine op_mod (by decide) ?_
    repeat' tb_start
    refine call_range1 ?_
    dsimp only
    rw [hN]
    have hR : (os ++ [rangeO 0 (((2 + x.fmod 3).toNat : Nat) : Int) 1])[os.length]? = some (rangeO 0 (((2 + x.fmod 3).toNat : Nat) : Int) 1) := app_at
    have he3 : Ext os (os ++ [rangeO 0 (((2 + x.fmod 3).toNat : Nat) : Int) 1]) := Ext.app _ _
    generalize os ++ [rangeO 0 (((2 + x.fmod 3).toNat : Nat) : Int) 1] = os3 at *
    refine' comp_src [(Str.ofString "menu", st.os.length), (Str.ofString "x", os2.length + 2)] (fun _ => true) (fun _ a y => ∃ i : Nat, a = .int (i : Int) ∧ y = .str (Str.ofString "/" ++ nameAt x i)) ?hc2 ?hx2 ?hz2 ?hit2 ?src2 ?hF2 ?turn2 ?fin2
    case src2 => exact src_range (2 + x.fmod 3).toNat
    case hit2 => exact fun Q h => it_rangeN hR (by lsm_bools) h
    case hz2 => rw [List.length_map, List.length_range]; lsm_bools
    case hc2 => decide
    case hx2 => exact lookup_relabel_local rfl
    case hF2 => exact fun _ _ _ _ _ h => h
    case turn2 =>
      intro c3 os4 i a hin3 ha he4 hl4
      dsimp only at hin3 he4 hl4
      obtain ⟨q, hq, rfl⟩ : ∃ q : Nat, q < (2 + x.fmod 3).toNat ∧ a = .int (q : Int) := by
        have := List.mem_of_getElem? ha
        simp at this
        obtain ⟨y, hy, e⟩ := this
        exact ⟨y, by lsm_bools, e.symm⟩
      have hq4 := fm2 hmod hq
      have hsc3 := hin3.sc hsc
      have hcl3 := hin3.cl
      have hm4 := he4 _ _ (he3 _ _ hm2')
      have hc4 := he4 _ _ (he3 _ _ hc2')
      have hx4 := he4 _ _ (he3 _ _ hl)
      refine tsts_nil ⟨rfl, rfl, rfl, Ext.refl _, fun _ => ?_⟩
      repeat' tb_start
      refine op_floordiv (by decide) (by decide) ?_
      repeat' tb_start
      refine op_pow (by lsm_bools) (by lsm_bools) (by decide) ?_
      have hpw : ((4 : Int) ^ (q : Int).toNat) ≠ 0 := by exact Int.pow_ne_zero (by decide)
      refine op_floordiv hpw ?_ ?_
      · rw [Int.toNat_natCast]
        rcases fm4 hq4 with rfl | rfl | rfl | rfl <;> decide
      repeat' tb_start
      refine op_mod (by decide) ?_
      have hmod4 : 0 ≤ (((x.fdiv 3).fdiv ((4 : Int) ^ (q : Int).toNat)).fmod 4) ∧ (((x.fdiv 3).fdiv ((4 : Int) ^ (q : Int).toNat)).fmod 4) < 4 := ⟨Int.fmod_nonneg_of_pos _ (by decide), Int.fmod_lt_of_pos _ (by decide)⟩
      refine sub_list hm4 (fun _ _ => rfl) hmod4.1 (Int.lt_trans hmod4.2 (by decide)) (a := .str (nameAt x q)) ?_ ?_
      · unfold nameAt
        rw [Int.toNat_natCast] at hmod4 ⊢
        generalize ((x.fdiv 3).fdiv ((4 : Int) ^ q)).fmod 4 = z at hmod4 ⊢
        have : z = 0 ∨ z = 1 ∨ z = 2 ∨ z = 3 := by lsm_bools
        rcases this with rfl | rfl | rfl | rfl <;> rfl
      refine op_addS (by have := nameAt_len x q; have : (Str.ofString "/").length = 1 := rfl; lsm_bools) ?_
      exact ⟨rfl, rfl, Ext.refl _, q, rfl, rfl⟩
    case fin2 =>
      intro os5 ys he5 hy hp
      rw [List.filter_eq_self.mpr (fun _ _ => rfl)] at hp
      have hys : ys = (((namesNum x).map fun y => Str.ofString "/" ++ y).map AV.str) := by
        have := hp.map (f := fun a => match a with | .int i => .str (Str.ofString "/" ++ nameAt x i.toNat) | _ => a) (fun a _ b ⟨i, e1, e2⟩ => by rw [e1, e2]; rfl)
        rw [this]
        unfold namesNum
        rw [List.map_map, List.map_map, List.map_map]
        apply List.map_congr_left
        intro a _
        rfl
      repeat' tb_start
      refine call_join (xs := ((namesNum x).map fun y => Str.ofString "/" ++ y)) (by rw [← hys]; exact hy) ?_ ?_
      · rw [List.map_map]
        have h1 : (((namesNum x).map fun y => (Str.ofString "/" ++ y)).map (·.length)).sum ≤ ((namesNum x).map fun y => (Str.ofString "/" ++ y)).length * 5 := PySem.StrLaws.sumLen_le _ (by
          intro y hy
          unfold namesNum at hy
          rw [List.map_map, List.mem_map] at hy
          obtain ⟨i, _, rfl⟩ := hy
          show (Str.ofString "/" ++ nameAt x i).length ≤ 5
          rw [PySem.Str.length_append]
          have := nameAt_len x i
          have : (Str.ofString "/").length = 1 := rfl
          lsm_bools)
        rw [List.map_map] at h1
        have h2 : (Str.ofString "").length = 0 := rfl
        rw [h2]
        have h3 : (namesNum x).length ≤ 4 := by unfold namesNum; rw [List.length_map, List.length_range]; lsm_bools
        rw [List.length_map] at h1
        lsm_bools
      exact ⟨rfl, rfl, he3.trans he5, x, rfl, rfl⟩
  case fin =>
    intro os' ys he hy hp
    rw [List.filter_eq_self.mpr (fun _ _ => rfl)] at hp
    have hys : ys = ((ns.map placeNum).map AV.str) := by
      have := hp.map (f := fun a => match a with | .int i => .str (placeNum i) | _ => a) (fun a _ b ⟨i, e1, e2⟩ => by rw [e1, e2])
      rw [this, List.map_map, List.map_map]
      apply List.map_congr_left
      intro a _
      rfl
    refine seq_ret ?_
    exact h os' _ (he2.trans he) (by have := he2.len; dsimp only; lsm_bools) (by rw [hy, hys])
-- VQ
section
open AutoSeq1 (wpAny_loadPart')
noncomputable def ltS : List Str → List Str → Bool
  | [], _ :: _ => true
  | _, [] => false
  | x :: xs, y :: ys => if x = y then ltS xs ys else decide (x.cps.toList < y.cps.toList)
theorem strv_get (l : List (Str × Tok)) (i : Nat) : (strValues l).toArray[i]? = (l[i]?).map fun p => Value.str p.1 p.2 := by simp [strValues]
noncomputable def gtS : List Str → List Str → Bool
  | _ :: _, [] => true
  | [], _ => false
  | x :: xs, y :: ys => if x = y then gtS xs ys else decide (y.cps.toList < x.cps.toList)
open Builtin in
theorem lt_loop (l b : Addr) (l1 l2 : List (Str × Tok)) (n n2 : Nat) (k : Nat) :
    ∀ i : Nat, l1.length - i = k → i ≤ l1.length → i ≤ l2.length → Meets (Builtin.«list.__eq__.loop» ⟨[.ref l, .ref b, rawInt i, rawInt 0], []⟩)
      (fun A R s => s.heap.get? l = some { cls := .type "list", dict := none, data := .seq (strValues l1).toArray n, slots := #[] } ∧ s.heap.get? b = some { cls := .type "list", dict := none, data := .seq (strValues l2).toArray n2, slots := #[] } ∧
        R (.ok (.ret (.bool (ltS ((l1.drop i).map (·.1)) ((l2.drop i).map (·.1)))))) s) := by
  induction k with
  | zero =>
    intro i hk hle hle2 prog w A R s h
    obtain ⟨hp, g, d, tk, os⟩ := s; obtain ⟨hl, hb, h⟩ := h
    wp_walk using wpAny_loadPart' hl, wpAny_loadPart' hb
    have hi1 : (strValues l1).toArray[((i : Nat) : Int).toNat]? = none := by simp [strValues]; lsm_bools
    have hd : l1.drop i = [] := by simp; lsm_bools
    rw [hd] at h
    rw [hi1]
    wp_walk using wpAny_loadPart' hl, wpAny_loadPart' hb
    show R (.ok (.ret (.bool (decide ((strValues l1).toArray.size < (strValues l2).toArray.size)))) ) _
    have e : ltS (([] : List (Str × Tok)).map (·.1)) ((l2.drop i).map (·.1)) = decide ((strValues l1).toArray.size < (strValues l2).toArray.size) := by
      have e1 : (strValues l1).toArray.size = l1.length := by simp [strValues]
      have e2 : (strValues l2).toArray.size = l2.length := by simp [strValues]
      rw [e1, e2]
      cases q : l2.drop i with
      | nil => have : l2.length ≤ i := by simpa using q
               simp [ltS]; lsm_bools
      | cons a r => have : i < l2.length := by have := congrArg List.length q; simp at this; lsm_bools
                    simp [ltS]; lsm_bools
    rw [e] at h
    exact h
  | succ k ih =>
    intro i hk hle hle2 prog w A R s h
    obtain ⟨hp, g, d, tk, os⟩ := s; obtain ⟨hl, hb, h⟩ := h
    wp_walk using wpAny_loadPart' hl, wpAny_loadPart' hb
    have hlt : i < l1.length := by lsm_bools
    have hi1 : (strValues l1).toArray[((i : Nat) : Int).toNat]? = some (.str l1[i].1 l1[i].2) := by rw [Int.toNat_natCast, strv_get, List.getElem?_eq_getElem hlt]; rfl
    have hd1 : l1.drop i = l1[i] :: l1.drop (i + 1) := List.drop_eq_getElem_cons hlt
    rw [hi1]
    by_cases hlt2 : i < l2.length
    · have hi2 : (strValues l2).toArray[((i : Nat) : Int).toNat]? = some (.str l2[i].1 l2[i].2) := by rw [Int.toNat_natCast, strv_get, List.getElem?_eq_getElem hlt2]; rfl
      have hd2 : l2.drop i = l2[i] :: l2.drop (i + 1) := List.drop_eq_getElem_cons hlt2
      rw [hi2]
      rw [hd1, hd2, List.map_cons, List.map_cons, ltS] at h
      refine wpAny_bind (wpAny_eqBool_str ?_)
      have hc : ((i : Int) + 1) = ((i + 1 : Nat) : Int) := by push_cast; rfl
      by_cases he : l1[i].1 = l2[i].1
      · rw [if_pos he] at h
        simp only [he, decide_true, if_true]
        rw [hc]
        refine wpAny_pure ?_
        exact ⟨plainId_quiet MeetsSeq3.plain_eq_loop _, codeAny_builtin MeetsSeq3.entry_eq_loop (by
          rw [Around.under_plainId MeetsSeq3.plain_eq_loop _]
          exact ih (i + 1) (by lsm_bools) (by lsm_bools) (by lsm_bools) prog w A R _ ⟨hl, hb, h⟩)⟩
      · rw [if_neg he] at h
        simp only [he, decide_false, Bool.false_eq_true, if_false]
        wp_walk using wpAny_loadPart' hl, wpAny_loadPart' hb
        rw [hi1, hi2]
        refine wpAny_bind (PySem.P.lt_str ?_)
        exact wpAny_pure h
    · have hi2 : (strValues l2).toArray[((i : Nat) : Int).toNat]? = none := by rw [Int.toNat_natCast, strv_get]; simp; lsm_bools
      have hd2 : l2.drop i = [] := by simp; lsm_bools
      rw [hi2]
      rw [hd1, hd2, List.map_cons, List.map_nil, ltS] at h
      wp_walk using wpAny_loadPart' hl, wpAny_loadPart' hb
      show R (.ok (.ret (.bool (decide ((strValues l1).toArray.size < (strValues l2).toArray.size)))) ) _
      have e1 : (strValues l1).toArray.size = l1.length := by simp [strValues]
      have e2 : (strValues l2).toArray.size = l2.length := by simp [strValues]
      have e : decide ((strValues l1).toArray.size < (strValues l2).toArray.size) = false := by
        rw [e1, e2]; simp; lsm_bools
      rw [e]
      exact h
open Builtin in
theorem gt_loop (l b : Addr) (l1 l2 : List (Str × Tok)) (n n2 : Nat) (k : Nat) :
    ∀ i : Nat, l1.length - i = k → i ≤ l1.length → i ≤ l2.length → Meets (Builtin.«list.__eq__.loop» ⟨[.ref l, .ref b, rawInt i, rawInt 4], []⟩)
      (fun A R s => s.heap.get? l = some { cls := .type "list", dict := none, data := .seq (strValues l1).toArray n, slots := #[] } ∧ s.heap.get? b = some { cls := .type "list", dict := none, data := .seq (strValues l2).toArray n2, slots := #[] } ∧
        R (.ok (.ret (.bool (gtS ((l1.drop i).map (·.1)) ((l2.drop i).map (·.1)))))) s) := by
  induction k with
  | zero =>
    intro i hk hle hle2 prog w A R s h
    obtain ⟨hp, g, d, tk, os⟩ := s; obtain ⟨hl, hb, h⟩ := h
    wp_walk using wpAny_loadPart' hl, wpAny_loadPart' hb
    have hi1 : (strValues l1).toArray[((i : Nat) : Int).toNat]? = none := by simp [strValues]; lsm_bools
    have hd : l1.drop i = [] := by simp; lsm_bools
    rw [hd] at h
    rw [hi1]
    wp_walk using wpAny_loadPart' hl, wpAny_loadPart' hb
    show R (.ok (.ret (.bool (decide ((strValues l2).toArray.size < (strValues l1).toArray.size)))) ) _
    have e : gtS (([] : List (Str × Tok)).map (·.1)) ((l2.drop i).map (·.1)) = decide ((strValues l2).toArray.size < (strValues l1).toArray.size) := by
      have e1 : (strValues l1).toArray.size = l1.length := by simp [strValues]
      have e2 : (strValues l2).toArray.size = l2.length := by simp [strValues]
      rw [e1, e2]
      cases q : l2.drop i with
      | nil => have : l2.length ≤ i := by simpa using q
               simp [gtS]; lsm_bools
      | cons a r => have : i < l2.length := by have := congrArg List.length q; simp at this; lsm_bools
                    simp [gtS]; lsm_bools
    rw [e] at h
    exact h
  | succ k ih =>
    intro i hk hle hle2 prog w A R s h
    obtain ⟨hp, g, d, tk, os⟩ := s; obtain ⟨hl, hb, h⟩ := h
    wp_walk using wpAny_loadPart' hl, wpAny_loadPart' hb
    have hlt : i < l1.length := by lsm_bools
    have hi1 : (strValues l1).toArray[((i : Nat) : Int).toNat]? = some (.str l1[i].1 l1[i].2) := by rw [Int.toNat_natCast, strv_get, List.getElem?_eq_getElem hlt]; rfl
    have hd1 : l1.drop i = l1[i] :: l1.drop (i + 1) := List.drop_eq_getElem_cons hlt
    rw [hi1]
    by_cases hlt2 : i < l2.length
    · have hi2 : (strValues l2).toArray[((i : Nat) : Int).toNat]? = some (.str l2[i].1 l2[i].2) := by rw [Int.toNat_natCast, strv_get, List.getElem?_eq_getElem hlt2]; rfl
      have hd2 : l2.drop i = l2[i] :: l2.drop (i + 1) := List.drop_eq_getElem_cons hlt2
      rw [hi2]
      rw [hd1, hd2, List.map_cons, List.map_cons, gtS] at h
      refine wpAny_bind (wpAny_eqBool_str ?_)
      have hc : ((i : Int) + 1) = ((i + 1 : Nat) : Int) := by push_cast; rfl
      by_cases he : l1[i].1 = l2[i].1
      · rw [if_pos he] at h
        simp only [he, decide_true, if_true]
        rw [hc]
        refine wpAny_pure ?_
        exact ⟨plainId_quiet MeetsSeq3.plain_eq_loop _, codeAny_builtin MeetsSeq3.entry_eq_loop (by
          rw [Around.under_plainId MeetsSeq3.plain_eq_loop _]
          exact ih (i + 1) (by lsm_bools) (by lsm_bools) (by lsm_bools) prog w A R _ ⟨hl, hb, h⟩)⟩
      · rw [if_neg he] at h
        simp only [he, decide_false, Bool.false_eq_true, if_false]
        wp_walk using wpAny_loadPart' hl, wpAny_loadPart' hb
        rw [hi1, hi2]
        refine wpAny_bind (PySem.P.gt_str ?_)
        exact wpAny_pure h
    · have hi2 : (strValues l2).toArray[((i : Nat) : Int).toNat]? = none := by rw [Int.toNat_natCast, strv_get]; simp; lsm_bools
      have hd2 : l2.drop i = [] := by simp; lsm_bools
      rw [hi2]
      rw [hd1, hd2, List.map_cons, List.map_nil, gtS] at h
      wp_walk using wpAny_loadPart' hl, wpAny_loadPart' hb
      show R (.ok (.ret (.bool (decide ((strValues l2).toArray.size < (strValues l1).toArray.size)))) ) _
      have e1 : (strValues l1).toArray.size = l1.length := by simp [strValues]
      have e2 : (strValues l2).toArray.size = l2.length := by simp [strValues]
      have e : decide ((strValues l2).toArray.size < (strValues l1).toArray.size) = true := by
        rw [e1, e2]; simp; lsm_bools
      rw [e]
      exact h
end
-- VR
section
open AutoSeq1 (wpAny_loadPart')
section
variable {prog : Program} {w : World} {A : Around} {E : Value → Shared → Prop} {s : Shared}
open Builtin in
theorem list_lt (l b : Addr) (l1 l2 : List (Str × Tok)) (n n2 : Nat) :
    Meets (Builtin.«list.__lt__» ⟨[.ref l, .ref b], []⟩)
      (fun A R s => s.heap.get? l = some { cls := .type "list", dict := none, data := .seq (strValues l1).toArray n, slots := #[] } ∧ s.heap.get? b = some { cls := .type "list", dict := none, data := .seq (strValues l2).toArray n2, slots := #[] } ∧
        R (.ok (.ret (.bool (ltS (l1.map (·.1)) (l2.map (·.1)))))) s) := by
  intro prog w A R s h
  obtain ⟨hp, g, d, tk, os⟩ := s; obtain ⟨hl, hb, h⟩ := h
  have f3 := AutoSeq1.sub_list_list
  wp_walk using wpAny_loadPart' hl, wpAny_loadPart' hb
  exact ⟨plainId_quiet MeetsSeq3.plain_eq_loop _, codeAny_builtin MeetsSeq3.entry_eq_loop (by
    rw [Around.under_plainId MeetsSeq3.plain_eq_loop _]
    exact lt_loop l b l1 l2 n n2 _ 0 rfl (Nat.zero_le _) (Nat.zero_le _) prog w A R _ ⟨hl, hb, by simpa using h⟩)⟩
open Builtin in
theorem list_gt (l b : Addr) (l1 l2 : List (Str × Tok)) (n n2 : Nat) :
    Meets (Builtin.«list.__gt__» ⟨[.ref l, .ref b], []⟩)
      (fun A R s => s.heap.get? l = some { cls := .type "list", dict := none, data := .seq (strValues l1).toArray n, slots := #[] } ∧ s.heap.get? b = some { cls := .type "list", dict := none, data := .seq (strValues l2).toArray n2, slots := #[] } ∧
        R (.ok (.ret (.bool (gtS (l1.map (·.1)) (l2.map (·.1)))))) s) := by
  intro prog w A R s h
  obtain ⟨hp, g, d, tk, os⟩ := s; obtain ⟨hl, hb, h⟩ := h
  have f3 := AutoSeq1.sub_list_list
  wp_walk using wpAny_loadPart' hl, wpAny_loadPart' hb
  exact ⟨plainId_quiet MeetsSeq3.plain_eq_loop _, codeAny_builtin MeetsSeq3.entry_eq_loop (by
    rw [Around.under_plainId MeetsSeq3.plain_eq_loop _]
    exact gt_loop l b l1 l2 n n2 _ 0 rfl (Nat.zero_le _) (Nat.zero_le _) prog w A R _ ⟨hl, hb, by simpa using h⟩)⟩
theorem rich_lt {a b : Addr} {l1 l2 : List (Str × Tok)} {n n2 : Nat} {Q : Value → Shared → Prop} (hu : A.units < cLine) (h1 : s.heap.get? a = some (PySem.W.listOf (strValues l1).toArray n)) (h2 : s.heap.get? b = some (PySem.W.listOf (strValues l2).toArray n2))
    (h : Q (.bool (ltS (l1.map (·.1)) (l2.map (·.1)))) s) : wpAny (model prog w) A (richCompare .Lt (.ref a) (.ref b)) Q E s :=
  wpAny_richCompare_same_room (op := .Lt) (T := "list") ⟨_, h1, rfl⟩ ⟨_, h2, rfl⟩ PySem.F.slot_list_lt
    (call_meets PySem.F.slot_list_lt (T := "list") ⟨_, h1, rfl⟩ PySem.F.entry_list_lt (PySem.F.args_list_lt_2 _ _) (list_lt a b l1 l2 n n2) ⟨h1, h2, (fun e => nomatch e), h⟩) hu
theorem rich_gt {a b : Addr} {l1 l2 : List (Str × Tok)} {n n2 : Nat} {Q : Value → Shared → Prop} (hu : A.units < cLine) (h1 : s.heap.get? a = some (PySem.W.listOf (strValues l1).toArray n)) (h2 : s.heap.get? b = some (PySem.W.listOf (strValues l2).toArray n2))
    (h : Q (.bool (gtS (l1.map (·.1)) (l2.map (·.1)))) s) : wpAny (model prog w) A (richCompare .Gt (.ref a) (.ref b)) Q E s :=
  wpAny_richCompare_same_room (op := .Gt) (T := "list") ⟨_, h1, rfl⟩ ⟨_, h2, rfl⟩ PySem.F.slot_list_gt
    (call_meets PySem.F.slot_list_gt (T := "list") ⟨_, h1, rfl⟩ PySem.F.entry_list_gt (PySem.F.args_list_gt_2 _ _) (list_gt a b l1 l2 n n2) ⟨h1, h2, (fun e => nomatch e), h⟩) hu
end

theorem Rp.growBut {W : Wd} {c : Cx} {ρ : List Addr} {st : St} {s : Shared} (r : Rp W c ρ st s) {h' : Heap} {n : Nat} {wr : List Addr} (hs : ∀ b o, b ∉ wr → s.heap.get? b = some o → h'.get? b = some o) (h1 : ∀ x ∈ wr, x ∉ ρ) (h2 : ∀ x ∈ wr, s.heap.objs.size ≤ x) : Rp W c ρ st { s with heap := h', toks := n } :=
  r.grow fun b o e => hs b o (fun hm => Nat.lt_irrefl _ (Nat.lt_of_lt_of_le (Heap.lt_size e) (h2 b hm))) e

/-- what stands in the base heap, but for the walker and the one list of the loop's own -/
noncomputable def KeepAt (wr : List Addr) (S : Addr) (H0 H : Heap) : Prop := ∀ b o, b ∉ wr → b ≠ S → H0.get? b = some o → H.get? b = some o
noncomputable def CmpAt (prog : Program) (w : World) (A : Around) (op : CmpOp) (P : Nat → Value → Prop) (bt : Nat → Nat → Bool) (wr : List Addr) (S : Addr) (H0 : Heap) : Prop :=
  ∀ i j vi vj (s : Shared) (Q : Value → Shared → Prop) (E : Value → Shared → Prop), KeepAt wr S H0 s.heap → P i vi → P j vj → Q (.bool (bt i j)) s → wpAny (model prog w) A (richCompare op vi vj) Q E s

section
variable {prog : Program} {w : World} {A : Around} {R : Result → Shared → Prop} {I : Addr} {fp wr : List Addr} {n : Nat} {P : Nat → Value → Prop} {St : Nat → Heap → Prop}
theorem min_go (W : Walks prog w A.in1 I fp wr n P St) (bt : Nat → Nat → Bool) (S : Addr) (H0 : Heap) (hcmp : CmpAt prog w A.in1 .Lt P bt wr S H0) (hSf : S ∉ fp) :
    ∀ (k j : Nat) (s : Shared) (vb : Value) (c : Nat), n - (j + 1) = k → j + 1 ≤ n → St (j + 1) s.heap → P (argBest bt j) vb → KeepAt wr S H0 s.heap →
    s.heap.get? S = some { cls := .type "list", dict := none, data := .seq #[vb, vb] c, slots := #[] } →
    (∀ v h' tk, P (argBest bt (n - 1)) v → KeepAt wr S H0 h' → R (.ok (.ret v)) { s with heap := h', toks := tk }) →
    codeAny (model prog w) A (.builtin "min.loop" ⟨[.ref I, .none, .ref S], []⟩) R s := by
  have hSw : S ∉ wr := fun h => hSf (W.sub _ h)
  have hname : (toString "min" ++ toString ".loop" : String) = "min.loop" := by decide
  intro k
  induction k with
  | zero =>
    intro j s vb c hk hj hst hPb hK hS hR
    have hin : j + 1 = n := by lsm_bools
    refine codeAny_builtin PySem.F.entry_min_loop ?_
    rw [Around.under_plainId PySem.F.plain_min_loop _]
    show wpAny _ A.in1 (seqItems? (.ref S) >>= _) _ _ s
    refine wpAny_bind (wpAny_seqItems hS rfl ?_)
    show wpAny _ A.in1 (tryCatch (pyNext (.ref I)) _ >>= _) _ _ s
    refine wpAny_bind (wpAny_tryCatch (W.done s _ _ (hin ▸ hst) fun h' tk hk' => ?_))
    have hS' := hk' S _ hSw hS
    show wpAny _ A.in1 (updateSeq S (fun _ => #[]) >>= _) _ _ _
    refine wpAny_bind ?_
    refine wpAny_updateSeq hS' rfl (wpAny_bind (wpAny_letGo (wpAny_pure ?_)))
    exact hR vb _ tk (by rw [← hin]; exact hPb) fun b o hbw hbS e => (Heap.get?_update_other _ _ (Ne.symm hbS)).trans (hk' b o hbw (hK b o hbw hbS e))
  | succ k ih =>
    intro j s vb c hk hj hst hPb hK hS hR
    have hlt : j + 1 < n := by lsm_bools
    refine codeAny_builtin PySem.F.entry_min_loop ?_
    rw [Around.under_plainId PySem.F.plain_min_loop _]
    show wpAny _ A.in1 (seqItems? (.ref S) >>= _) _ _ s
    refine wpAny_bind (wpAny_seqItems hS rfl ?_)
    show wpAny _ A.in1 (tryCatch (pyNext (.ref I)) _ >>= _) _ _ s
    refine wpAny_bind (wpAny_tryCatch (W.item (j + 1) s _ _ hlt hst fun v h' tk hP hst' hk' => ?_))
    have hS' := hk' S _ hSw hS
    have hK' : KeepAt wr S H0 h' := fun b o hbw hbS e => hk' b o hbw (hK b o hbw hbS e)
    show wpAny _ A.in1 (tryCatch (holding [v, v] (richCompare .Lt v vb >>= _)) _ >>= _) _ _ _
    refine wpAny_bind (wpAny_tryCatch (wpAny_holding (wpAny_bind (hcmp (j + 1) (argBest bt j) v vb _ _ _ hK' hP hPb ?_))))
    refine wpAny_bind (wpAny_holding (wpAny_truthy_bool ?_))
    refine wpAny_bind (wpAny_letGo (wpAny_pure ?_))
    cases hb : bt (j + 1) (argBest bt j) with
    | true =>
      simp only [if_true]
      refine wpAny_bind ?_
      refine wpAny_updateSeq hS' rfl (wpAny_bind (wpAny_letGo ?_))
      rw [hname]
      refine wpAny_pure ⟨plainId_quiet PySem.F.plain_min_loop _, ih (j + 1) _ v _ (by lsm_bools) hlt (W.frame _ _ _ hst' fun b hbf o e => ?_) (by simp only [argBest, hb, if_true]; exact hP) (fun b o hbw hbS e => (Heap.get?_update_other _ _ (Ne.symm hbS)).trans (hK' b o hbw hbS e)) (Heap.get?_update_self _ hS' rfl)
        fun v' h'' tk'' hP' hk'' => hR v' h'' tk'' hP' hk''⟩
      exact (Heap.get?_update_other _ _ (fun h : S = b => hSf (by rw [h]; exact hbf))).trans e
    | false =>
      simp only [Bool.false_eq_true, if_false]
      refine wpAny_bind (wpAny_letGo ?_)
      rw [hname]
      exact wpAny_pure ⟨plainId_quiet PySem.F.plain_min_loop _, ih (j + 1) _ vb c (by lsm_bools) hlt hst' (by simp only [argBest, hb, Bool.false_eq_true, if_false]; exact hPb) hK' hS' fun v' h'' tk'' hP' hk'' => hR v' h'' tk'' hP' hk''⟩

theorem min_first (W : Walks prog w A.in1 I fp wr n P St) (bt : Nat → Nat → Bool) (S : Addr) (H0 : Heap) (hcmp : CmpAt prog w A.in1 .Lt P bt wr S H0) (hSf : S ∉ fp) (hn : 0 < n) {s : Shared} {c : Nat} (hst : St 0 s.heap) (hK : KeepAt wr S H0 s.heap)
    (hS : s.heap.get? S = some { cls := .type "list", dict := none, data := .seq #[] c, slots := #[] })
    (hR : ∀ v h' tk, P (argBest bt (n - 1)) v → KeepAt wr S H0 h' → R (.ok (.ret v)) { s with heap := h', toks := tk }) :
    codeAny (model prog w) A (.builtin "min.loop" ⟨[.ref I, .none, .ref S], []⟩) R s := by
  have hSw : S ∉ wr := fun h => hSf (W.sub _ h)
  have hname : (toString "min" ++ toString ".loop" : String) = "min.loop" := by decide
  refine codeAny_builtin PySem.F.entry_min_loop ?_
  rw [Around.under_plainId PySem.F.plain_min_loop _]
  show wpAny _ A.in1 (seqItems? (.ref S) >>= _) _ _ s
  refine wpAny_bind (wpAny_seqItems hS rfl ?_)
  show wpAny _ A.in1 (tryCatch (pyNext (.ref I)) _ >>= _) _ _ s
  refine wpAny_bind (wpAny_tryCatch (W.item 0 s _ _ hn hst fun v h' tk hP hst' hk' => ?_))
  have hS' := hk' S _ hSw hS
  show wpAny _ A.in1 (updateSeq S (fun _ => #[v, v]) >>= _) _ _ _
  refine wpAny_bind ?_
  refine wpAny_updateSeq hS' rfl ?_
  rw [hname]
  refine wpAny_pure ⟨plainId_quiet PySem.F.plain_min_loop _, min_go W bt S H0 hcmp hSf _ 0 _ v _ rfl hn (W.frame _ _ _ hst' fun b hbf o e => ?_) hP (fun b o hbw hbS e => (Heap.get?_update_other _ _ (Ne.symm hbS)).trans (hk' b o hbw (hK b o hbw hbS e))) (Heap.get?_update_self _ hS' rfl) fun v' h'' tk'' hP' hk'' => hR v' h'' tk'' hP' hk''⟩
  exact (Heap.get?_update_other _ _ (fun h : S = b => hSf (by rw [h]; exact hbf))).trans e
end

section
variable {W : Wd} {c : Cx} {st : St}
/-- min of a list of rows -/
inductive RowV (s : Shared) (rs : List (List Str)) (i : Nat) (vi : Value) : Prop
  | mk (b : Addr) (l : List (Str × Tok)) (m : Nat) (e : vi = .ref b) (h : s.heap.get? b = some (PySem.W.listOf (strValues l).toArray m)) (e2 : l.map (·.1) = rs.getD i [])
theorem row_at {ρ : List Addr} {s : Shared} {as : List AV} {rs : List (List Str)} {ws : List Value} {i : Nat} {vi : Value} (r : Rp W c ρ st s) (hr : RowsAt st.os as rs) (h3 : VRel ρ as ws) (e : (List.toArray ws)[i]? = some vi) : RowV s rs i vi := by
  rw [List.getElem?_toArray] at e
  have hi : i < as.length := by rw [← h3.length]; exact (List.getElem?_eq_some_iff.mp e).1
  obtain ⟨jj, xs, e1, e2, e3⟩ := hr.get (i := i) (a := as[i]) (List.getElem?_eq_getElem hi)
  obtain ⟨u, hu, hru⟩ := h3.get (i := i) (a := as[i]) (List.getElem?_eq_getElem hi)
  rw [hu] at e
  cases e
  rw [e1] at hru
  obtain ⟨b, us, m, q1, q2, q3, q4⟩ := r.list e3 hru
  obtain ⟨l, e4, e5⟩ := q4.strs
  subst e4
  refine ⟨b, l, m, q1, q3, ?_⟩
  rw [e5, List.getD_eq_getElem?_getD, e2]; rfl
theorem best_le (bt : Nat → Nat → Bool) (q : Nat) : argBest bt q ≤ q := by
  induction q with
  | zero => exact Nat.le_refl _
  | succ q ih => rw [argBest]; split <;> lsm_bools
theorem best_end {ρ : List Addr} {s : Shared} {as : List AV} {ws : List Value} {Q : AV → St → Prop} {bt : Nat → Nat → Bool} {v : Value} {h' H1 : Heap} {tk : Nat} (r : Rp W c ρ st s) (h3 : VRel ρ as ws) (hne : as ≠ []) (hsz : H1.objs.size = s.heap.objs.size + 1)
    (hP : (List.toArray ws)[argBest bt ((List.toArray ws).size - 1)]? = some v) (hk' : KeepAt [s.heap.objs.size] H1.objs.size s.heap h') (h : ∀ a, as[argBest bt (as.length - 1)]? = some a → Q a st) : Post W c VR ρ Q v { s with heap := h', toks := tk } := by
  have hi : argBest bt (as.length - 1) < as.length := Nat.lt_of_le_of_lt (best_le _ _) (Nat.sub_lt (List.length_pos_iff.mpr hne) Nat.zero_lt_one)
  rw [List.size_toArray, h3.length, List.getElem?_toArray] at hP
  obtain ⟨u, hu, hru⟩ := h3.get (List.getElem?_eq_getElem hi)
  rw [hu] at hP
  cases hP
  refine Post.here (h _ (List.getElem?_eq_getElem hi)) (r.growBut (n := tk) (wr := [s.heap.objs.size, H1.objs.size]) (fun b o hb e => hk' b o (fun q => hb (List.mem_cons.mpr (.inl (List.mem_singleton.mp q)))) (fun q => hb (List.mem_cons.mpr (.inr (List.mem_singleton.mpr q)))) e) ?_ ?_) hru
  · intro x hx hm
    have := r.lt hm
    rcases List.mem_cons.mp hx with rfl | hx
    · exact Nat.lt_irrefl _ this
    · rw [List.mem_singleton.mp hx, hsz] at this; exact Nat.lt_irrefl _ (Nat.lt_of_succ_lt this)
  · intro x hx
    rcases List.mem_cons.mp hx with rfl | hx
    · exact Nat.le_refl _
    · rw [List.mem_singleton.mp hx, hsz]; exact Nat.le_succ _
theorem notin2 {a : Addr} {s : Shared} {H1 : Heap} (hsz : H1.objs.size = s.heap.objs.size + 1) (ha : a < s.heap.objs.size) : H1.objs.size ∉ [s.heap.objs.size, a] := by
  intro hm
  rw [hsz] at hm
  rcases List.mem_cons.mp hm with e | hm
  · exact Nat.succ_ne_self _ e
  · rw [← List.mem_singleton.mp hm] at ha; exact Nat.lt_irrefl _ (Nat.lt_of_succ_lt ha)
theorem keepAt_get {s s' : Shared} {H1 : Heap} {b : Addr} {o : Obj} (hsz : H1.objs.size = s.heap.objs.size + 1) (hK : KeepAt [s.heap.objs.size] H1.objs.size s.heap s'.heap) (h : s.heap.get? b = some o) : s'.heap.get? b = some o := by
  have lt := Heap.lt_size h
  refine hK b _ (fun q => ?_) (by rw [hsz]; exact Nat.ne_of_lt (Nat.lt_succ_of_lt lt)) h
  rw [List.mem_singleton.mp q] at lt; exact Nat.lt_irrefl _ lt
theorem call_minR {k : Nat} {as : List AV} {rs : List (List Str)} {Q : AV → St → Prop} (hk : st.os[k]? = some (.list as)) (hz : as.length ≤ 1000) (hr : RowsAt st.os as rs) (hne : as ≠ [])
    (h : ∀ a, as[argBest (fun i j => ltS (rs.getD i []) (rs.getD j [])) (as.length - 1)]? = some a → Q a st) : CallV W c st (.builtin "min") [.obj k] Q := fun ρ s E vs r ⟨v, _, e, hv, e'⟩ => by
  subst e; subst e'
  obtain ⟨a, ws, m, e1, h1, h2, h3⟩ := r.list hk hv
  subst e1
  have hlen := h3.length
  have hname : (toString "min" ++ toString ".loop" : String) = "min.loop" := by decide
  have hL : s.heap.IsList a (List.toArray ws) := ⟨_, h2, rfl, m, rfl⟩
  have halt : a < s.heap.objs.size := Heap.lt_size h2
  refine call_function_tree PySem.F.kind_min PySem.F.plain_min PySem.F.entry_min (PySem.F.args_min1 _) ?_
  show wpAny _ c.A.in1 (Builtin.Builtins.bindParams "min" ["key", "default"] 0 ⟨[], []⟩ >>= _) _ _ s
  refine wpAny_bind (wpAny_of_eq (show Builtin.Builtins.bindParams "min" ["key", "default"] 0 ⟨[], []⟩ = pure [none, none] from rfl) ?_)
  refine wpAny_bind (wpAny_pure ?_)
  refine wpAny_bind (wpAny_pyIter_list hL ?_)
  refine wpAny_bind (wpAny_newObj_type ?_)
  rw [hname]
  generalize hh1 : s.heap.push { cls := .type "list_iterator", data := .fields #[.ref a, .int 0 0] } = H1
  have hsz : H1.objs.size = s.heap.objs.size + 1 := by rw [← hh1, Heap.size_push]
  have hI : s.heap.objs.size ≠ a := Nat.ne_of_gt halt
  have WK := Walks.list (prog := W.prog) (w := W.w) (A := c.A.in1) r.ok.hd s.heap.objs.size a (Ne.symm hI) (List.toArray ws)
  have old : ∀ b o, s.heap.get? b = some o → H1.get? b = some o := fun b o e => by rw [← hh1]; exact Heap.get?_push_of_some _ e
  refine wpAny_pure ⟨plainId_quiet PySem.F.plain_min_loop _, min_first WK (fun i j => ltS (rs.getD i []) (rs.getD j [])) H1.objs.size s.heap ?_ ?_ ?_ ?_ ?_ (Heap.get?_push_size _ rfl) fun v h' tk hP hk' => ?_⟩
  · intro i j vi vj s' Q' E' hK hPi hPj hQ'
    obtain ⟨b1, l1, m1, q1, q2, q3⟩ := row_at r hr h3 hPi
    obtain ⟨b2, l2, m2, p1, p2, p3⟩ := row_at r hr h3 hPj
    subst q1; subst p1
    have g1 := keepAt_get hsz hK q2
    have g2 := keepAt_get hsz hK p2
    have un := r.ok.un
    refine rich_lt (by show c.A.units + 1 < cLine; lsm_bools) g1 g2 ?_
    rw [q3, p3]; exact hQ'
  · exact notin2 hsz halt
  · rw [List.size_toArray, hlen]; exact List.length_pos_iff.mpr hne
  · refine ⟨⟨_, Heap.get?_push_of_some _ (by rw [← hh1]; exact Heap.get?_push_size _ rfl), rfl, rfl⟩, ⟨_, Heap.get?_push_of_some _ (old _ _ h2), rfl, _, rfl⟩⟩
  · intro b o _ _ e; exact Heap.get?_push_of_some _ (old _ _ e)
  · exact best_end (s := s) r h3 hne hsz hP hk' h
end

section
variable {prog : Program} {w : World} {A : Around} {R : Result → Shared → Prop} {I : Addr} {fp wr : List Addr} {n : Nat} {P : Nat → Value → Prop} {St : Nat → Heap → Prop}
theorem max_go (W : Walks prog w A.in1 I fp wr n P St) (bt : Nat → Nat → Bool) (S : Addr) (H0 : Heap) (hcmp : CmpAt prog w A.in1 .Gt P bt wr S H0) (hSf : S ∉ fp) :
    ∀ (k j : Nat) (s : Shared) (vb : Value) (c : Nat), n - (j + 1) = k → j + 1 ≤ n → St (j + 1) s.heap → P (argBest bt j) vb → KeepAt wr S H0 s.heap →
    s.heap.get? S = some { cls := .type "list", dict := none, data := .seq #[vb, vb] c, slots := #[] } →
    (∀ v h' tk, P (argBest bt (n - 1)) v → KeepAt wr S H0 h' → R (.ok (.ret v)) { s with heap := h', toks := tk }) →
    codeAny (model prog w) A (.builtin "max.loop" ⟨[.ref I, .none, .ref S], []⟩) R s := by
  have hSw : S ∉ wr := fun h => hSf (W.sub _ h)
  have hname : (toString "max" ++ toString ".loop" : String) = "max.loop" := by decide
  intro k
  induction k with
  | zero =>
    intro j s vb c hk hj hst hPb hK hS hR
    have hin : j + 1 = n := by lsm_bools
    refine codeAny_builtin PySem.F.entry_max_loop ?_
    rw [Around.under_plainId PySem.F.plain_max_loop _]
    show wpAny _ A.in1 (seqItems? (.ref S) >>= _) _ _ s
    refine wpAny_bind (wpAny_seqItems hS rfl ?_)
    show wpAny _ A.in1 (tryCatch (pyNext (.ref I)) _ >>= _) _ _ s
    refine wpAny_bind (wpAny_tryCatch (W.done s _ _ (hin ▸ hst) fun h' tk hk' => ?_))
    have hS' := hk' S _ hSw hS
    show wpAny _ A.in1 (updateSeq S (fun _ => #[]) >>= _) _ _ _
    refine wpAny_bind ?_
    refine wpAny_updateSeq hS' rfl (wpAny_bind (wpAny_letGo (wpAny_pure ?_)))
    exact hR vb _ tk (by rw [← hin]; exact hPb) fun b o hbw hbS e => (Heap.get?_update_other _ _ (Ne.symm hbS)).trans (hk' b o hbw (hK b o hbw hbS e))
  | succ k ih =>
    intro j s vb c hk hj hst hPb hK hS hR
    have hlt : j + 1 < n := by lsm_bools
    refine codeAny_builtin PySem.F.entry_max_loop ?_
    rw [Around.under_plainId PySem.F.plain_max_loop _]
    show wpAny _ A.in1 (seqItems? (.ref S) >>= _) _ _ s
    refine wpAny_bind (wpAny_seqItems hS rfl ?_)
    show wpAny _ A.in1 (tryCatch (pyNext (.ref I)) _ >>= _) _ _ s
    refine wpAny_bind (wpAny_tryCatch (W.item (j + 1) s _ _ hlt hst fun v h' tk hP hst' hk' => ?_))
    have hS' := hk' S _ hSw hS
    have hK' : KeepAt wr S H0 h' := fun b o hbw hbS e => hk' b o hbw (hK b o hbw hbS e)
    show wpAny _ A.in1 (tryCatch (holding [v, v] (richCompare .Gt v vb >>= _)) _ >>= _) _ _ _
    refine wpAny_bind (wpAny_tryCatch (wpAny_holding (wpAny_bind (hcmp (j + 1) (argBest bt j) v vb _ _ _ hK' hP hPb ?_))))
    refine wpAny_bind (wpAny_holding (wpAny_truthy_bool ?_))
    refine wpAny_bind (wpAny_letGo (wpAny_pure ?_))
    cases hb : bt (j + 1) (argBest bt j) with
    | true =>
      simp only [if_true]
      refine wpAny_bind ?_
      refine wpAny_updateSeq hS' rfl (wpAny_bind (wpAny_letGo ?_))
      rw [hname]
      refine wpAny_pure ⟨plainId_quiet PySem.F.plain_max_loop _, ih (j + 1) _ v _ (by lsm_bools) hlt (W.frame _ _ _ hst' fun b hbf o e => ?_) (by simp only [argBest, hb, if_true]; exact hP) (fun b o hbw hbS e => (Heap.get?_update_other _ _ (Ne.symm hbS)).trans (hK' b o hbw hbS e)) (Heap.get?_update_self _ hS' rfl)
        fun v' h'' tk'' hP' hk'' => hR v' h'' tk'' hP' hk''⟩
      exact (Heap.get?_update_other _ _ (fun h : S = b => hSf (by rw [h]; exact hbf))).trans e
    | false =>
      simp only [Bool.false_eq_true, if_false]
      refine wpAny_bind (wpAny_letGo ?_)
      rw [hname]
      exact wpAny_pure ⟨plainId_quiet PySem.F.plain_max_loop _, ih (j + 1) _ vb c (by lsm_bools) hlt hst' (by simp only [argBest, hb, Bool.false_eq_true, if_false]; exact hPb) hK' hS' fun v' h'' tk'' hP' hk'' => hR v' h'' tk'' hP' hk''⟩

theorem max_first (W : Walks prog w A.in1 I fp wr n P St) (bt : Nat → Nat → Bool) (S : Addr) (H0 : Heap) (hcmp : CmpAt prog w A.in1 .Gt P bt wr S H0) (hSf : S ∉ fp) (hn : 0 < n) {s : Shared} {c : Nat} (hst : St 0 s.heap) (hK : KeepAt wr S H0 s.heap)
    (hS : s.heap.get? S = some { cls := .type "list", dict := none, data := .seq #[] c, slots := #[] })
    (hR : ∀ v h' tk, P (argBest bt (n - 1)) v → KeepAt wr S H0 h' → R (.ok (.ret v)) { s with heap := h', toks := tk }) :
    codeAny (model prog w) A (.builtin "max.loop" ⟨[.ref I, .none, .ref S], []⟩) R s := by
  have hSw : S ∉ wr := fun h => hSf (W.sub _ h)
  have hname : (toString "max" ++ toString ".loop" : String) = "max.loop" := by decide
  refine codeAny_builtin PySem.F.entry_max_loop ?_
  rw [Around.under_plainId PySem.F.plain_max_loop _]
  show wpAny _ A.in1 (seqItems? (.ref S) >>= _) _ _ s
  refine wpAny_bind (wpAny_seqItems hS rfl ?_)
  show wpAny _ A.in1 (tryCatch (pyNext (.ref I)) _ >>= _) _ _ s
  refine wpAny_bind (wpAny_tryCatch (W.item 0 s _ _ hn hst fun v h' tk hP hst' hk' => ?_))
  have hS' := hk' S _ hSw hS
  show wpAny _ A.in1 (updateSeq S (fun _ => #[v, v]) >>= _) _ _ _
  refine wpAny_bind ?_
  refine wpAny_updateSeq hS' rfl ?_
  rw [hname]
  refine wpAny_pure ⟨plainId_quiet PySem.F.plain_max_loop _, max_go W bt S H0 hcmp hSf _ 0 _ v _ rfl hn (W.frame _ _ _ hst' fun b hbf o e => ?_) hP (fun b o hbw hbS e => (Heap.get?_update_other _ _ (Ne.symm hbS)).trans (hk' b o hbw (hK b o hbw hbS e))) (Heap.get?_update_self _ hS' rfl) fun v' h'' tk'' hP' hk'' => hR v' h'' tk'' hP' hk''⟩
  exact (Heap.get?_update_other _ _ (fun h : S = b => hSf (by rw [h]; exact hbf))).trans e
end

section
variable {W : Wd} {c : Cx} {st : St}
/-- max of a list of rows -/
theorem call_maxR {k : Nat} {as : List AV} {rs : List (List Str)} {Q : AV → St → Prop} (hk : st.os[k]? = some (.list as)) (hz : as.length ≤ 1000) (hr : RowsAt st.os as rs) (hne : as ≠ [])
    (h : ∀ a, as[argBest (fun i j => gtS (rs.getD i []) (rs.getD j [])) (as.length - 1)]? = some a → Q a st) : CallV W c st (.builtin "max") [.obj k] Q := fun ρ s E vs r ⟨v, _, e, hv, e'⟩ => by
  subst e; subst e'
  obtain ⟨a, ws, m, e1, h1, h2, h3⟩ := r.list hk hv
  subst e1
  have hlen := h3.length
  have hname : (toString "max" ++ toString ".loop" : String) = "max.loop" := by decide
  have hL : s.heap.IsList a (List.toArray ws) := ⟨_, h2, rfl, m, rfl⟩
  have halt : a < s.heap.objs.size := Heap.lt_size h2
  refine call_function_tree PySem.F.kind_max PySem.F.plain_max PySem.F.entry_max (PySem.F.args_max1 _) ?_
  show wpAny _ c.A.in1 (Builtin.Builtins.bindParams "max" ["key", "default"] 0 ⟨[], []⟩ >>= _) _ _ s
  refine wpAny_bind (wpAny_of_eq (show Builtin.Builtins.bindParams "max" ["key", "default"] 0 ⟨[], []⟩ = pure [none, none] from rfl) ?_)
  refine wpAny_bind (wpAny_pure ?_)
  refine wpAny_bind (wpAny_pyIter_list hL ?_)
  refine wpAny_bind (wpAny_newObj_type ?_)
  rw [hname]
  generalize hh1 : s.heap.push { cls := .type "list_iterator", data := .fields #[.ref a, .int 0 0] } = H1
  have hsz : H1.objs.size = s.heap.objs.size + 1 := by rw [← hh1, Heap.size_push]
  have hI : s.heap.objs.size ≠ a := Nat.ne_of_gt halt
  have WK := Walks.list (prog := W.prog) (w := W.w) (A := c.A.in1) r.ok.hd s.heap.objs.size a (Ne.symm hI) (List.toArray ws)
  have old : ∀ b o, s.heap.get? b = some o → H1.get? b = some o := fun b o e => by rw [← hh1]; exact Heap.get?_push_of_some _ e
  refine wpAny_pure ⟨plainId_quiet PySem.F.plain_max_loop _, max_first WK (fun i j => gtS (rs.getD i []) (rs.getD j [])) H1.objs.size s.heap ?_ ?_ ?_ ?_ ?_ (Heap.get?_push_size _ rfl) fun v h' tk hP hk' => ?_⟩
  · intro i j vi vj s' Q' E' hK hPi hPj hQ'
    obtain ⟨b1, l1, m1, q1, q2, q3⟩ := row_at r hr h3 hPi
    obtain ⟨b2, l2, m2, p1, p2, p3⟩ := row_at r hr h3 hPj
    subst q1; subst p1
    have g1 := keepAt_get hsz hK q2
    have g2 := keepAt_get hsz hK p2
    have un := r.ok.un
    refine rich_gt (by show c.A.units + 1 < cLine; lsm_bools) g1 g2 ?_
    rw [q3, p3]; exact hQ'
  · exact notin2 hsz halt
  · rw [List.size_toArray, hlen]; exact List.length_pos_iff.mpr hne
  · refine ⟨⟨_, Heap.get?_push_of_some _ (by rw [← hh1]; exact Heap.get?_push_size _ rfl), rfl, rfl⟩, ⟨_, Heap.get?_push_of_some _ (old _ _ h2), rfl, _, rfl⟩⟩
  · intro b o _ _ e; exact Heap.get?_push_of_some _ (old _ _ e)
  · exact best_end (s := s) r h3 hne hsz hP hk' h
end
end
-- VS
theorem Rp.adopt {W : Wd} {c : Cx} {ρ : List Addr} {st : St} {s : Shared} (r : Rp W c ρ st s) {a : Addr} {o : AO} {ob : Obj} (hg : s.heap.get? a = some ob) (ho : o.rel W.w.params ρ ob) (hn : a ∉ ρ) (h1 : a ≠ c.L) (h2 : c.g.get? a = none) :
    Rp W c (ρ ++ [a]) { st with os := st.os ++ [o] } s := by
  obtain ⟨M, hM, hL⟩ := r.ns
  refine ⟨r.ok, ⟨M, hM, fun x b e => let ⟨v, q1, q2⟩ := hL x b e; ⟨v, q1, q2.mono⟩⟩, r.keep, r.above, ⟨?_, ?_⟩, ?_, ?_, ?_, r.gens, r.os⟩
  · simp [r.objs.len]
  · intro k o' hk
    by_cases hl : k < st.os.length
    · have hk' : st.os[k]? = some o' := by
        have : (st.os ++ [o])[k]? = some o' := hk
        rwa [List.getElem?_append_left hl] at this
      obtain ⟨b, ob', q1, q2, q3⟩ := r.objs.at_ k o' hk'
      exact ⟨b, ob', idx_app q1, q2, q3.mono⟩
    · have hk' : (st.os ++ [o])[k]? = some o' := hk
      have hk2 : k = st.os.length := by
        have := (List.getElem?_eq_some_iff.mp hk').1
        simp at this; lsm_bools
      subst hk2
      simp at hk'
      subst hk'
      exact ⟨a, ob, by rw [← r.objs.len]; simp, hg, ho.mono⟩
  · intro b hb
    rcases List.mem_append.mp hb with hb | hb
    · exact r.fresh b hb
    · simp at hb; subst hb; exact ⟨h1, h2⟩
  · rw [List.nodup_append]
    refine ⟨r.nodup, by simp, ?_⟩
    intro x hx y hy
    simp at hy; subst hy
    intro e; subst e; exact hn hx
  · intro x k e
    obtain ⟨b, q1, q2⟩ := r.cells x k e
    exact ⟨b, idx_app q1, q2⟩

theorem Rp.newAddr {W : Wd} {c : Cx} {ρ : List Addr} {st : St} {s : Shared} (r : Rp W c ρ st s) {a : Addr} (ha : s.heap.objs.size ≤ a) : a ∉ ρ ∧ a ≠ c.L ∧ c.g.get? a = none := by
  obtain ⟨M, hM, _⟩ := r.ns
  refine ⟨fun h => absurd (r.lt h) (Nat.not_lt.mpr ha), fun e => absurd hM.lt (Nat.not_lt.mpr (by rw [← e]; exact ha)), ?_⟩
  cases q : c.g.get? a with
  | none => rfl
  | some o => exact absurd (Heap.lt_size (r.keep _ _ q)) (Nat.not_lt.mpr ha)

theorem Rp.alter2 {W : Wd} {c : Cx} {ρ : List Addr} {st : St} {s : Shared} (r : Rp W c ρ st s) {k1 k2 : Nat} {a1 a2 : Addr} {o1 o2 : AO} {b1 b2 : Obj} {h' : Heap} {n : Nat} (hk1 : ρ[k1]? = some a1) (hk2 : ρ[k2]? = some a2) (hne : k1 ≠ k2)
    (hs : ∀ b o, b ≠ a1 → b ≠ a2 → s.heap.get? b = some o → h'.get? b = some o) (g1 : h'.get? a1 = some b1) (g2 : h'.get? a2 = some b2) (q1 : o1.rel W.w.params ρ b1) (q2 : o2.rel W.w.params ρ b2) :
    Rp W c ρ { st with os := (st.os.set k1 o1).set k2 o2 } { s with heap := h', toks := n } := by
  obtain ⟨M, hM, hL⟩ := r.ns
  have f1 := r.fresh a1 (List.mem_of_getElem? hk1)
  have f2 := r.fresh a2 (List.mem_of_getElem? hk2)
  have l1 : k1 < st.os.length := by have := (List.getElem?_eq_some_iff.mp hk1).1; rw [r.objs.len] at this; exact this
  have l2 : k2 < st.os.length := by have := (List.getElem?_eq_some_iff.mp hk2).1; rw [r.objs.len] at this; exact this
  obtain ⟨oL, es, ep, w1, w2⟩ := hM
  refine ⟨r.ok, ⟨M, ⟨oL, es, ep, hs _ _ (Ne.symm f1.1) (Ne.symm f2.1) w1, w2⟩, hL⟩, ?_, r.above, ⟨by simp [r.objs.len], ?_⟩, r.fresh, r.nodup, r.cells, r.gens, r.os⟩
  · intro b o e
    refine hs b o ?_ ?_ (r.keep b o e)
    · intro q; subst q; rw [e] at f1; exact nomatch f1.2
    · intro q; subst q; rw [e] at f2; exact nomatch f2.2
  · intro j o hj
    have hj' : ((st.os.set k1 o1).set k2 o2)[j]? = some o := hj
    by_cases e2 : k2 = j
    · subst e2
      rw [List.getElem?_set_self (by simpa using l2)] at hj'
      cases hj'
      exact ⟨a2, b2, hk2, g2, q2⟩
    · rw [List.getElem?_set_ne e2] at hj'
      by_cases e1 : k1 = j
      · subst e1
        rw [List.getElem?_set_self l1] at hj'
        cases hj'
        exact ⟨a1, b1, hk1, g1, q1⟩
      · rw [List.getElem?_set_ne e1] at hj'
        obtain ⟨a', ob, p1, p2, p3⟩ := r.objs.at_ j o hj'
        have nn : ∀ k a, ρ[k]? = some a → k ≠ j → a' ≠ a := by
          intro k a hk hkj e; subst e
          obtain ⟨m1, n1⟩ := List.getElem?_eq_some_iff.mp p1
          obtain ⟨m2, n2⟩ := List.getElem?_eq_some_iff.mp hk
          exact hkj (nodup_inj r.nodup m2 m1 (n2.trans n1.symm))
        exact ⟨a', ob, p1, hs a' ob (nn _ _ hk1 e1) (nn _ _ hk2 e2) p2, p3⟩

section
variable {prog : Program} {w : World} {A : Around} {E : Value → Shared → Prop} {s : Shared}
theorem nextOf_end {it l : Addr} {i : Nat} {items} {Q : Value → Shared → Prop} (hh : A.handled = none)
    (hit : s.heap.IsListIter it l i) (hl : s.heap.IsList l items) (hx : items[i]? = none)
    (hE : ∀ h' e ob, Heap.ExtBut it s.heap h' → h'.get? it = some ob → (∃ o, h'.get? e = some o ∧ o.cls = .type "StopIteration") → E (.ref e) { s with heap := h' }) :
    wpAny (model prog w) A (Builtin.SmallTypes.nextOf (.ref it)) Q E s := by
  obtain ⟨o, ho, hc, hd⟩ := id hit
  obtain ⟨ol, hol, _, nl, hdl⟩ := hl
  unfold Builtin.SmallTypes.nextOf
  refine wpAny_bind (wpAny_callSpecial?_slot (name := Str.ofString "__next__") hit.typeIs slot_listiter_next
    (wpAny_call_entry slot_listiter_next hit.typeIs entry_listiter_next ?_ (args_listiter_next _)))
  show wpAny _ _ (field (.ref it) 0 >>= _) _ _ s
  refine wpAny_bind (wpAny_field ho hd (x := .ref l) rfl ?_)
  show wpAny _ _ (if (Value.ref l == Value.none) = true then _ else _) _ _ s
  rw [if_neg (show ¬ ((Value.ref l == Value.none) = true) from Bool.false_ne_true)]
  show wpAny _ _ (field (.ref it) 1 >>= _) _ _ s
  refine wpAny_bind (wpAny_field ho hd (x := .int i 0) rfl ?_)
  show wpAny _ _ (seqItems? (.ref l) >>= _) _ _ s
  refine wpAny_bind (wpAny_seqItems hol hdl ?_)
  simp only [Int.toNat_natCast, hx]
  refine wpAny_bind (wpAny_rule (wpAny_bind (wpAny_setField ho hd (by simp) ?_)))
  show wpAny _ _ (newExc (.type "StopIteration") [] >>= _) _ _ _
  refine stop_raise (show A.in1.handled = none from hh) fun o1 o2 hoo hcc => ?_
  exact hE _ _ _ (((Heap.SameBut.update ..).extBut.push _).push _) (ext_get (b := 0) (d := 0) ho (Obj.isFreed_of_fields (Obj.data_mapFields hd _))) ⟨_, hoo, hcc⟩
theorem end_enum {e it l : Addr} {i : Nat} {items : Array Value} {old : Value} {Q : Option Value → Shared → Prop} (hh : A.handled = none)
    (he : IsEnum s.heap e it i old) (hit : s.heap.IsListIter it l i) (hl : s.heap.IsList l items) (hx : items[i]? = none)
    (hQ : ∀ h' ob, Heap.ExtBut it s.heap h' → h'.get? it = some ob → Q none { s with heap := h' }) : wpAny (model prog w) A (pyNext (.ref e)) Q E s := by
  have hT : s.TypeIs (.ref e) "enumerate" := ⟨_, he, rfl⟩
  unfold pyNext
  refine wpAny_bind (wpAny_attempt (wpAny_callSpecial?_slot (name := Str.ofString "__next__") hT PySem.F.slot_enumerate_next
    (wpAny_call_entry PySem.F.slot_enumerate_next hT PySem.F.entry_enumerate_next ?_ (PySem.F.args_enumerate_next_1 _))))
  show wpAny _ _ (field (.ref e) 2 >>= _) _ _ _
  refine wpAny_bind (wpAny_field he rfl (x := .ref it) rfl ?_)
  refine wpAny_bind (nextOf_end hh hit hl hx fun h' x ob he' hob hx' => ?_)
  obtain ⟨o, ho, hc⟩ := hx'
  refine wpAny_bind (wpAny_isInstance (T := "StopIteration") (b := true) ⟨o, ho, hc⟩ isSubtype_stop ?_)
  exact wpAny_pure (hQ _ _ he' hob)
end

section
variable {W : Wd} {c : Cx} {st : St}
theorem call_enum {k : Nat} {l : List AV} {Q : AV → St → Prop} (hk : st.os[k]? = some (.list l)) (h : Q (.obj (st.os.length + 1)) { st with os := st.os ++ [itO "list_iterator" k 0, enO st.os.length 0] }) :
    CallV W c st (.type "enumerate") [.obj k] Q := fun ρ s E vs r ⟨v, _, e, hv, e'⟩ => by
  subst e; subst e'
  obtain ⟨a, ws, m, e1, h1, h2, h3⟩ := r.list hk hv
  subst e1
  refine call_enumerate_list (items := List.toArray ws) ⟨_, h2, rfl, m, rfl⟩ fun h' he hi hz hkp => ?_
  have r1 : Rp W c ρ st { s with heap := h' } := r.grow (n := s.toks) hkp
  obtain ⟨oi, hoi, hci, hdi⟩ := hi
  obtain ⟨n1, n2, n3⟩ := r.newAddr (Nat.le_refl _)
  obtain ⟨n4, n5, n6⟩ := r.newAddr (Nat.le_succ s.heap.objs.size)
  have r2 := r1.adopt (o := itO "list_iterator" k 0) hoi ⟨a, h1, hci, hdi⟩ n1 n2 n3
  have r3 := r2.adopt (o := enO st.os.length 0) (a := s.heap.objs.size + 1) he ⟨s.heap.objs.size, .none, by rw [← r.objs.len]; simp, rfl⟩ (by simp; exact n4) n5 n6
  refine ⟨[s.heap.objs.size] ++ [s.heap.objs.size + 1], .obj (st.os.length + 1), _, ?_, ⟨_, ?_, rfl⟩, h⟩
  · rw [← List.append_assoc]
    have : st.os ++ [itO "list_iterator" k 0, enO st.os.length 0] = st.os ++ [itO "list_iterator" k 0] ++ [enO st.os.length 0] := by simp
    rw [this]; exact r3
  · rw [← r.objs.len]; simp

/-- for i, x in enumerate(l) -/
inductive FeI (W : Wd) (c : Cx) (ρ0 : List Addr) (l : List AV) (J : Nat → St → Prop) (n : Nat) (s' : Shared) : Prop
  | mk (ρ' : List Addr) (st' : St) (i : Nat) (h1 : n + i = l.length + 1) (h2 : Rp W c (ρ0 ++ ρ') st' s') (h3 : J i st')
noncomputable abbrev ForQ (J : St → Prop) (Q : AF → St → Prop) (f : AF) (st5 : St) : Prop := match f with | .next | .cont => J st5 | .brk => Q .next st5 | .ret v => Q (.ret v) st5
theorem ex_ForE {xi xv : Str} {pi pv pt pos : Pos} {x1 : Nat} {iter : Expr} {body orelse : List Stmt} {Q : AF → St → Prop} (hs : ∀ x, foldedSetIterable iter c.env x = pure x) (hi : c.scope.names.lookup xi = some .local) (hv : c.scope.names.lookup xv = some .local)
    (h : Ev W c st (eval iter c.env) (fun a st1 => ∃ ke kit kl l, a = .obj ke ∧ ke ≠ kit ∧ st1.os[ke]? = some (enO kit 0) ∧ ∃ J : Nat → St → Prop, J 0 st1 ∧
      ∀ i st2, J i st2 → i ≤ l.length ∧ st2.os[ke]? = some (enO kit i) ∧ st2.os[kit]? = some (itO "list_iterator" kl i) ∧ st2.os[kl]? = some (.list l) ∧
        (∀ v, l[i]? = some v → Ex W c { st2 with m := putM xv v (putM xi (.int (i : Int)) st2.m), os := (st2.os.set kit (itO "list_iterator" kl (i + 1))).set ke (enO kit (i + 1)) } (execs body c.env)
          (ForQ (J (i + 1)) Q)) ∧
        (l[i]? = none → Ex W c { st2 with os := st2.os.set kit anyO } (execs orelse c.env) Q))) :
    Ex W c st (exec (.For (.Tuple [.Name xi pi, .Name xv pv] x1 pt) iter body orelse pos) c.env) Q := fun ρ s E r => by
  refine wpAny_For (wp_on h r fun ρ1 a st1 v s1 r1 ra h1 => ?_) hs
  obtain ⟨ke, kit, kl, l, e, hne, hke, J, hJ, turn⟩ := h1
  subst e
  obtain ⟨ea, eob, ee, e1, e2, ita, old, e3, e4⟩ := r1.at_ hke ra
  subst ee; subst e4
  refine wpAny_pyIter_enum e2 ?_
  refine loop_any (FeI W c (ρ ++ ρ1) l J) (Post W c AF.rel ρ Q) (fun _ _ p => p) (fun n s' ⟨ρ', st', i, hn, r', hJ⟩ E' => ?_) (l.length + 1) ⟨[], st1, 0, rfl, by rw [List.append_nil]; exact r1, hJ⟩
  obtain ⟨hil, hke', hkit', hkl', hsome, hnone⟩ := turn i st' hJ
  have ra' : AV.rel (ρ ++ ρ1 ++ ρ') (.obj ke) (.ref ea) := ⟨_, idx_app e1, rfl⟩
  obtain ⟨ea2, eob2, ee2, f1, f2, ita2, old2, f3, f4⟩ := r'.at_ hke' ra'
  cases ee2
  subst f4
  obtain ⟨ita3, iob, g1, g2, g3, la, g4, g5, g6⟩ := r'.at_ hkit' (show AV.rel _ (.obj kit) (.ref ita2) from ⟨_, f3, rfl⟩)
  cases g1
  obtain ⟨la2, ws, m, k1, k2, k3, k4⟩ := r'.list hkl' ⟨la, g4, rfl⟩
  cases k1
  have hit : s'.heap.IsListIter ita2 la i := ⟨iob, g3, g5, g6⟩
  have hL : s'.heap.IsList la (List.toArray ws) := ⟨_, k3, rfl, m, rfl⟩
  have hEI : ea ≠ ita2 := by
    intro e
    obtain ⟨l1, q1⟩ := List.getElem?_eq_some_iff.mp f1
    obtain ⟨l2, q2⟩ := List.getElem?_eq_some_iff.mp g2
    exact hne (nodup_inj r'.nodup l1 l2 (q1.trans (e.trans q2.symm)))
  cases q : l[i]? with
  | none =>
    have hq : (List.toArray ws)[i]? = none := by have := k4.length; simp at q ⊢; lsm_bools
    refine end_enum r'.ok.hd f2 hit hL hq fun h1 ob hx1 hob => ?_
    have r2 := r'.alter (n := s'.toks) (o' := anyO) g2 hx1 hob trivial
    rw [List.append_assoc] at r2
    exact wp_go (hnone q) r2
  | some x =>
    obtain ⟨u, hu, hru⟩ := k4.get q
    have hi1n : i < l.length := (List.getElem?_eq_some_iff.mp q).1
    refine wpAny_pyNext_enum_item (x := u) f2 hit hL (by simpa using hu) hEI fun h1 ho hi1 ht1 hz1 hk1 => ?_
    refine wpAny_letOwnedTupleGo_enum ho fun h2 he2 hs2 => ?_
    have hlt : ea < s'.heap.objs.size := Heap.lt_size f2
    have hlt2 : ita2 < s'.heap.objs.size := Heap.lt_size g3
    have ht2 : h2.IsTuple s'.heap.objs.size #[.int i s'.toks, u] := ⟨_, (hs2.2 _ (Nat.ne_of_gt hlt)).trans ht1, rfl, _, rfl⟩
    refine wpAny_assign_Tuple r'.ok.hd ht2 rfl rfl fun h3 hx3 => ?_
    have hz2 : h2.objs.size = s'.heap.objs.size + 1 := hs2.1.trans hz1
    have up : ∀ b o, b < s'.heap.objs.size → h2.get? b = some o → h3.get? b = some o := fun b o hb e => hx3 b o (by show b ≠ h2.objs.size; rw [hz2]; exact Nat.ne_of_lt (Nat.lt_succ_of_lt hb)) e
    obtain ⟨oi, hoi, hci, hdi⟩ := hi1
    have hi3 : h3.get? ita2 = some oi := up _ _ hlt2 ((hs2.2 _ (Ne.symm hEI)).trans hoi)
    have he3 := up _ _ hlt he2
    have r3 : Rp W c (ρ ++ ρ1 ++ ρ') { st' with os := (st'.os.set kit (itO "list_iterator" kl (i + 1))).set ke (enO kit (i + 1)) } { s' with heap := h3, toks := s'.toks + 1 } :=
      r'.alter2 g2 f1 (Ne.symm hne) (fun b o hb1 hb2 e => up b o (Heap.lt_size e) ((hs2.2 b hb2).trans (hk1 b o hb2 hb1 e))) hi3 he3 ⟨la, g4, hci, hdi⟩ ⟨ita2, u, f3, by push_cast; rfl⟩
    show wpAny _ c.A (do holding [u] (assign (.Name xi pi) c.env (.int i s'.toks)); do holding [] (assign (.Name xv pv) c.env u); pure ()) _ _ _
    refine wpAny_bind (wpAny_holding (wpAny_assign_Name (wp_storeLocal r3 (a := .int (i : Int)) ⟨_, rfl⟩ hi fun s4 r4 => ?_)))
    refine wpAny_bind (wpAny_holding (wpAny_assign_Name (wp_storeLocal r4 hru hv fun s5 r5 => wpAny_pure ?_)))
    refine wp_on (hsome x q) r5 fun ρ5 f st5 fl s5 r5 rf h5 => ?_
    have e5 : ρ ++ ρ1 ++ ρ' ++ ρ5 = ρ ++ ρ1 ++ (ρ' ++ ρ5) := by simp only [List.append_assoc]
    have e6 : ρ ++ ρ1 ++ ρ' ++ ρ5 = ρ ++ (ρ1 ++ ρ' ++ ρ5) := by simp only [List.append_assoc]
    cases f with
    | next => cases rf; exact ⟨n - 1, by lsm_bools, _, st5, i + 1, by lsm_bools, by rw [e5] at r5; exact r5, h5⟩
    | cont => cases rf; exact ⟨n - 1, by lsm_bools, _, st5, i + 1, by lsm_bools, by rw [e5] at r5; exact r5, h5⟩
    | brk => cases rf; rw [e6] at r5; exact Post.on h5 r5 rfl
    | ret a => obtain ⟨u, e, hu⟩ := rf; subst e; rw [e6] at r5 hu; exact Post.on h5 r5 ⟨u, rfl, hu⟩

/-- a, b = .. (a tuple of two) -/
theorem ex_AssignT2 {xa xb : Str} {pa pb tpos pos : Pos} {k : Nat} {value : Expr} {Q : AF → St → Prop} (hs : swapsWithSole [.Tuple [.Name xa pa, .Name xb pb] k tpos] value pos.line c.env = pure false) (hw : swappedStores [.Tuple [.Name xa pa, .Name xb pb] k tpos] value c.env = pure none)
    (ha : c.scope.names.lookup xa = some .local) (hb : c.scope.names.lookup xb = some .local)
    (h : Ev W c st (eval value c.env) (fun a st1 => ∃ j x y, a = .obj j ∧ st1.os[j]? = some (.tup [x, y]) ∧ Q .next { st1 with m := putM xb y (putM xa x st1.m) })) :
    Ex W c st (exec (.Assign [.Tuple [.Name xa pa, .Name xb pb] k tpos] value pos) c.env) Q := fun ρ s E r => by
  refine Assign_Tuple (wp_on h r fun ρ1 a st1 v s1 r1 ra ⟨j, x, y, e, hj, hq⟩ => ?_) hs hw
  subst e
  obtain ⟨ta, vs, m, e1, h1, h2, h3⟩ := r1.tup hj ra
  obtain ⟨vx, _, rfl, hx, vy, _, rfl, hy, rfl⟩ := h3
  subst e1
  refine wpAny_assign_Tuple (items := #[vx, vy]) r1.ok.hd ⟨_, h2, rfl, m, rfl⟩ rfl rfl fun h' he => ?_
  have r2 : Rp W c (ρ ++ ρ1) st1 { s1 with heap := h' } := r1.grow (n := s1.toks) fun b o e => he b o (Nat.ne_of_lt (Heap.lt_size e)) e
  show wpAny _ c.A (do holding [vy] (assign (.Name xa pa) c.env vx); do holding [] (assign (.Name xb pb) c.env vy); pure ()) _ _ _
  refine wpAny_bind (wpAny_holding (wpAny_assign_Name (wp_storeLocal r2 hx ha fun s4 r4 => ?_)))
  refine wpAny_bind (wpAny_holding (wpAny_assign_Name (wp_storeLocal r4 hy hb fun s5 r5 => wpAny_pure ?_)))
  exact ⟨ρ1, .next, _, r5, rfl, hq⟩
end
-- VU
/-- the same activation, seen from inside a builtin -/
noncomputable def Cx.inn (c : Cx) : Cx := { c with A := c.A.in1, room := c.room - 1 }
theorem Rp.inn {W : Wd} {c : Cx} {ρ : List Addr} {st : St} {s : Shared} (r : Rp W c ρ st s) (hr : 1 ≤ c.room) : Rp W c.inn ρ st s :=
  ⟨⟨r.ok.X, r.ok.T, r.ok.kind, by have := r.ok.dep; show c.A.depth + (c.room - 1) < _; lsm_bools, by have := r.ok.un; show c.A.units + 1 + 20 * (c.room - 1) + 100 < _; lsm_bools, r.ok.hd⟩, r.ns, r.keep, r.above, r.objs, r.fresh, r.nodup, r.cells, r.gens, r.os⟩
theorem Rp.out {W : Wd} {c : Cx} {ρ : List Addr} {st : St} {s : Shared} (r : Rp W c.inn ρ st s) (h : c.Ok W) : Rp W c ρ st s :=
  ⟨h, r.ns, r.keep, r.above, r.objs, r.fresh, r.nodup, r.cells, r.gens, r.os⟩
/-- list's extend, up to its loop, where what is taken from is an object of another kind that is its own iterator -/
theorem ext_with {prog : Program} {w : World} {A : Around} {E : Value → Shared → Prop} {s : Shared} {S I : Addr} {res cls : Value} {Q : Fin → Shared → Prop} (hSI : S ≠ I) (h1 : (cls == Value.type "list") = false) (h2 : (cls == Value.type "tuple") = false)
    (hty : ∀ {Q' : Value → Shared → Prop} {E' : Value → Shared → Prop}, Q' cls s → wpAny (model prog w) A (typeOf (.ref I)) Q' E' s)
    (h : wpAny (model prog w) A (pyIter (.ref I)) (fun it s1 => it = .ref I ∧
      (∀ {Q' : Option Value → Shared → Prop} {E' : Value → Shared → Prop}, Q' none s1 → wpAny (model prog w) A (specialOf (.ref I) (Str.ofString "__len__")) Q' E' s1) ∧
      (∀ {Q' : Option Value → Shared → Prop} {E' : Value → Shared → Prop}, Q' none s1 → wpAny (model prog w) A (specialOf (.ref I) (Str.ofString "__length_hint__")) Q' E' s1) ∧
      ∃ n, s1.heap.get? S = some (PySem.W.listOf #[] n) ∧ Q (.again (.builtin "list.extend.loop" ⟨[.ref S, .ref I, res], []⟩)) { s1 with heap := (s1.heap.update S (Obj.mapSeq (·.push .none))).update S (Obj.mapSeq (·.pop)) }) E s) :
    wpAny (model prog w) A (Builtin.List.listExtendWith (.ref S) (.ref I) res) Q E s := by
  have h0 : Builtin.List.listSameRef (.ref S) (.ref I) = false := by simp [Builtin.List.listSameRef, hSI]
  refine wpAny_bind (m := typeOf (.ref I)) (hty ?_)
  refine wp_no (by rw [h0, h1, h2]; decide) ?_
  refine wpAny_bind (wpAny_mono h (fun it s1 p => ?_) fun _ _ z => z)
  obtain ⟨rfl, hl, hh, n, hS, hq⟩ := p
  refine wpAny_bind (wpAny_holding ?_)
  refine wpAny_bind (hl ?_)
  show wpAny _ A (specialOf (Value.ref I) (Str.ofString "__length_hint__") >>= _) _ _ _
  refine wpAny_bind (hh ?_)
  refine wpAny_pure ?_
  show wpAny _ A (rule "list.extend.makes-room" >>= fun _ => Builtin.List.listTouch (.ref S) >>= fun _ => again (.builtin "list.extend.loop" ⟨[.ref S, .ref I, res], []⟩)) _ _ _
  refine wpAny_bind (wpAny_rule (wpAny_bind ?_))
  show wpAny _ A (updateSeq S (·.push .none) >>= fun _ => updateSeq S (·.pop)) _ _ _
  refine wpAny_bind (wpAny_updateSeq hS rfl ?_)
  refine wpAny_updateSeq (hz := by seq_fits) (Heap.get?_update_self (Obj.mapSeq (·.push Value.none)) hS rfl) rfl ?_
  exact wpAny_pure hq
section
variable {W : Wd} {c : Cx}
/-- a builtin's loop that takes what an iterator gives into a list -/
theorem extend_go {kit kS : Nat} {Fin : St → Prop} (J : Nat → St → Prop)
    (turn : ∀ n st, J n st → Nx W c.inn st (.obj kit) (fun o st1 => match o with
      | none => Fin st1
      | some a => ∃ l, st1.os[kS]? = some (.list l) ∧ l.length ≤ 100000 ∧ ∃ m, m < n ∧ J m { st1 with os := st1.os.set kS (.list (l ++ [a])) }))
    {I S : Addr} {res : Value} {R : Result → Shared → Prop} {ρ0 : List Addr} :
    ∀ (n : Nat) (ρ : List Addr) (st : St) (s : Shared), Rp W c.inn (ρ0 ++ ρ) st s → ρ0[kit]? = some I → ρ0[kS]? = some S → J n st →
    (∀ ρ' st' s', Rp W c.inn (ρ0 ++ ρ') st' s' → Fin st' → R (.ok (.ret res)) s') → codeAny W.M c.A (.builtin "list.extend.loop" ⟨[.ref S, .ref I, res], []⟩) R s := by
  intro n
  induction n using Nat.strongRecOn with
  | ind n ih =>
    intro ρ st s r hI hS hJ hR
    refine codeAny_builtin PySem.F.entry_extend_loop ?_
    rw [Around.under_plainId PySem.F.plain_extend_loop _]
    show wpAny _ c.A.in1 (pyNext (.ref I) >>= _) _ _ s
    refine wpAny_bind (wpAny_mono (turn n st hJ _ s _ (.ref I) r ⟨I, idx_app hI, rfl⟩) (fun o s1 p => ?_) fun _ _ x => x)
    obtain ⟨ρ1, oa, st1, r1, ro, h1⟩ := p
    rw [List.append_assoc] at r1
    cases oa with
    | none =>
      cases ro
      exact wpAny_pure (hR _ _ _ r1 h1)
    | some a =>
      obtain ⟨v, e, hv⟩ := ro
      subst e
      obtain ⟨l, hl, hz, m, hm, hJ'⟩ := h1
      obtain ⟨S', vs, cc, e1, h2, h3, h4⟩ := r1.list hl (v := .ref S) ⟨S, idx_app hS, rfl⟩
      cases e1
      rw [List.append_assoc] at hv
      have hlen := h4.length
      show wpAny _ c.A.in1 (updateSeq S (·.push v) >>= _) _ _ _
      refine wpAny_bind ?_
      have hS1 : (ρ0 ++ (ρ ++ ρ1))[kS]? = some S := idx_app hS
      have e3 : ((List.toArray vs).push v) = List.toArray (vs ++ [v]) := by simp
      obtain ⟨n', hn'⟩ : ∃ n', Obj.mapSeq (·.push v) (PySem.W.listOf (List.toArray vs) cc) = PySem.W.listOf (List.toArray (vs ++ [v])) n' := ⟨_, by rw [← e3]; rfl⟩
      refine wpAny_updateSeq h3 rfl (wpAny_pure ⟨plainId_quiet PySem.F.plain_extend_loop _, ih m hm (ρ ++ ρ1) _ _ (r1.change (o' := .list (l ++ [a])) (n := s1.toks) hS1 (Heap.SameBut.update ..) (Heap.get?_update_self _ h3 rfl) ⟨vs ++ [v], n', hn', h4.append ⟨v, [], rfl, hv, rfl⟩⟩) hI hS hJ' hR⟩) ?_ ?_
      · simp only [List.size_toArray]; unfold sizeLine; lsm_bools
      · rw [e3]; simp only [List.size_toArray, List.length_append, List.length_cons, List.length_nil]; unfold sizeLine; lsm_bools

/-- all that an iterator gives, in a list -/
theorem wp_collect {kit : Nat} {T : String} {I : Addr} {st : St} {s : Shared} {ρ : List Addr} {E : Value → Shared → Prop} {Q : List AV → St → Prop} {R : List Value → Shared → Prop}
    (hT : s.TypeIs (.ref I) T) (hl : typeLookup (.type T) "__len__" = pure none) (hh : typeLookup (.type T) "__length_hint__" = pure none) (hT1 : (Value.type T == Value.type "list") = false) (hT2 : (Value.type T == Value.type "tuple") = false)
    (hroom : 1 ≤ c.room) (r : Rp W c ρ st s) (hI : ρ[kit]? = some I)
    (hself : ∀ (s' : Shared) (Q' : Value → Shared → Prop) (E' : Value → Shared → Prop), (∀ b o, s.heap.get? b = some o → s'.heap.get? b = some o) → Q' (.ref I) s' → wpAny W.M c.A.in1 (pyIter (.ref I)) Q' E' s')
    (J : Nat → St → Prop) (n : Nat) (hJ : J n { st with os := st.os ++ [.list []] })
    (turn : ∀ n st', J n st' → Nx W c.inn st' (.obj kit) (fun o st1 => match o with
      | none => ∃ l, st1.os[st.os.length]? = some (.list l) ∧ st1.m = st.m ∧ Q l st1
      | some a => ∃ l, st1.os[st.os.length]? = some (.list l) ∧ l.length ≤ 100000 ∧ ∃ m, m < n ∧ J m { st1 with os := st1.os.set st.os.length (.list (l ++ [a])) }))
    (hR : ∀ ρ' l vs st' s', Rp W c (ρ ++ ρ') st' s' → VRel (ρ ++ ρ') l vs → Q l st' → R vs s') :
    wpAny W.M c.A (collect (.ref I)) R E s := by
  have hIlt : I < s.heap.objs.size := r.lt (List.mem_of_getElem? hI)
  have hSI : s.heap.objs.size ≠ I := Nat.ne_of_gt hIlt
  unfold collect
  refine wpAny_bind (wpAny_runValue (codeAny_builtin PySem.F.entry_proto_collect ?_))
  rw [Around.under_plainId PySem.F.plain_proto_collect _]
  show wpAny _ c.A.in1 (newList [] >>= fun l => again (.builtin "list.__iadd__" ⟨[l, .ref I], []⟩)) _ _ s
  refine wpAny_bind (wpAny_newObj_type ?_)
  refine wpAny_pure ⟨plainId_quiet PySem.F.plain_list_iadd _, codeAny_builtin PySem.F.entry_list_iadd ?_⟩
  rw [Around.under_plainId PySem.F.plain_list_iadd _]
  have r1 := (r.inn hroom).alloc (o := .list []) (ob := { cls := .type "list", data := .seq ([] : List Value).toArray }) ⟨[], _, rfl, rfl⟩ rfl
  have old : ∀ b o, s.heap.get? b = some o → (s.heap.push { cls := .type "list", data := .seq ([] : List Value).toArray }).get? b = some o := fun b o e => Heap.get?_push_of_some _ e
  generalize hH1 : s.heap.push { cls := .type "list", data := .seq ([] : List Value).toArray } = H1 at *
  have hS₁ : H1.get? s.heap.objs.size = some { cls := .type "list", data := .seq ([] : List Value).toArray } := by rw [← hH1]; exact Heap.get?_push_size _ rfl
  have hT' : Shared.TypeIs { s with heap := H1 } (.ref I) T := let ⟨o, ho, hc⟩ := hT; ⟨o, old _ _ ho, hc⟩
  show wpAny _ c.A.in1 (Builtin.List.listExtendWith (.ref s.heap.objs.size) (.ref I) (.ref s.heap.objs.size)) _ _ _
  refine ext_with hSI hT1 hT2 (fun h => wpAny_typeOf hT' h) (hself _ _ _ old ⟨rfl, fun h => wpAny_specialOf hT' hl h, fun h => wpAny_specialOf hT' hh h, 0, hS₁, ?_⟩)
  have hS₂ := Heap.get?_update_self (Obj.mapSeq (·.push Value.none)) hS₁ rfl
  have hS₃ := Heap.get?_update_self (Obj.mapSeq (·.pop)) hS₂ rfl
  have hk : (ρ ++ [s.heap.objs.size])[st.os.length]? = some s.heap.objs.size := by rw [← r.objs.len]; simp
  have r2 := r1.change (n := s.toks) (o' := .list []) (k := st.os.length) hk ((Heap.SameBut.update (h := H1) (a := s.heap.objs.size) (f := Obj.mapSeq (·.push Value.none))).trans (Heap.SameBut.update ..)) hS₃ ⟨[], _, rfl, rfl⟩
  have e0 : (st.os ++ [AO.list []]).set st.os.length (.list []) = st.os ++ [.list []] := by
    simp
  have r2' : Rp W c.inn (ρ ++ [s.heap.objs.size]) { st with os := (st.os ++ [AO.list []]).set st.os.length (.list []) } _ := r2
  rw [e0, ← List.append_nil (ρ ++ [s.heap.objs.size])] at r2'
  have r3 := r2'
  refine ⟨plainId_quiet PySem.F.plain_extend_loop _, extend_go (kS := st.os.length) J turn n [] _ _ r3 (idx_app hI) hk hJ fun ρ' st' s' r' ⟨l, hl', hm, hq⟩ => ?_⟩
  obtain ⟨S', vs, cc, e1, h2, h3, h4⟩ := r'.list hl' (v := .ref s.heap.objs.size) ⟨_, idx_app hk, rfl⟩
  cases e1
  show wpAny _ c.A (load s.heap.objs.size >>= _) _ _ s'
  refine wpAny_bind (wpAny_load h3 ?_)
  refine wpAny_pure ?_
  rw [List.append_assoc] at r' h4
  exact hR _ l _ st' s' (r'.out r.ok) (by rw [List.toList_toArray]; exact h4) hq
end
-- VX
section
open AutoSeq1 (wpAny_loadPart')
namespace MF
theorem owner_map : Manifest.owners.lookup (String.ofList ['p', 'a', 'm'].reverse) = some Manifest.sig_map := by kernel_rfl
theorem slot_map_init : Slot "map" "__init__" "object.__init__" :=
  .of (owner := "object") (n := "__init__") (by rw [typeLookup_type, builtinLookup_eq_fast]; kernel_rfl) (by decide +kernel) (by decide +kernel) (by decide +kernel)
    (by first | exact .inl (by decide +kernel) | exact .inr (by decide +kernel)) (by rw [isSubtype_type]; kernel_rfl)
theorem slot_map_iter : Slot "map" "__iter__" "map.__iter__" :=
  .of (owner := "map") (n := "__iter__") (by rw [typeLookup_type, builtinLookup_eq_fast]; kernel_rfl) (by decide +kernel) (by decide +kernel) (by decide +kernel)
    (by first | exact .inl (by decide +kernel) | exact .inr (by decide +kernel)) (by rw [isSubtype_type]; kernel_rfl)
theorem slot_map_next : Slot "map" "__next__" "map.__next__" :=
  .of (owner := "map") (n := "__next__") (by rw [typeLookup_type, builtinLookup_eq_fast]; kernel_rfl) (by decide +kernel) (by decide +kernel) (by decide +kernel)
    (by first | exact .inl (by decide +kernel) | exact .inr (by decide +kernel)) (by rw [isSubtype_type]; kernel_rfl)
theorem entry_map_next : entryFor table "map.__next__" = some Builtin.«map.__next__» := entryFor_of_tree (by kernel_rfl)
theorem entry_map_new : entryFor table "map.__new__" = some Builtin.«map.__new__» := entryFor_of_tree (by kernel_rfl)
theorem entry_map_iter : entryFor table "map.__iter__" = some Builtin.«dict_keyiterator.__iter__» :=
  entryFor_alias (id' := "dict_keyiterator.__iter__") (by rw [fastTable_eq_tree]; kernel_rfl) (by decide +kernel) (by decide +kernel) (by rw [fastTable_eq_tree]; kernel_rfl)
theorem args_map_next_1 (a : Value) : argsOk "map.__next__" ⟨[a], []⟩ := by
  unfold argsOk; rw [signature?_of (id := "map.__next__") (n := ['_', '_', 't', 'x', 'e', 'n', '_', '_']) (o := ['p', 'a', 'm']) (by kernel_rfl) owner_map]; kernel_rfl
theorem args_map_iter_1 (a : Value) : argsOk "map.__iter__" ⟨[a], []⟩ := by
  unfold argsOk; rw [signature?_of (id := "map.__iter__") (n := ['_', '_', 'r', 'e', 't', 'i', '_', '_']) (o := ['p', 'a', 'm']) (by kernel_rfl) owner_map]; kernel_rfl
theorem mro_map : mroOf (.type "map") = pure [.type "map", .type "object"] := by rw [mroOf_type]; kernel_rfl
theorem lookup_map_new : typeLookup (.type "map") "__new__" = pure (some (.builtin "map.__new__")) := by rw [typeLookup_type, builtinLookup_eq_fast]; kernel_rfl
theorem called_map : TypeCalled "map" "map.__new__" "object.__init__" :=
  ⟨by decide +kernel, by decide +kernel, ⟨_, _, mro_map⟩, madeBy_type mro_map lookup_map_new (by decide +kernel), by decide +kernel, by rw [isSubtype_type]; kernel_rfl, slot_map_init⟩
theorem typeCall_map_2 (a b : Value) : checkTypeCall "map" ⟨[a, b], []⟩ = pure () := by kernel_rfl
theorem newCall_map_2 (a b : Value) : checkBuiltinCall "map.__new__" ⟨[.type "map", a, b], []⟩ = pure () := by kernel_rfl
theorem sub_map : isSubtype (.type "map") (.type "map") = pure true := by rw [isSubtype_type]; kernel_rfl
theorem map_no_len : typeLookup (.type "map") "__len__" = pure none := by rw [typeLookup_type, builtinLookup_eq_fast]; kernel_rfl
theorem map_no_hint : typeLookup (.type "map") "__length_hint__" = pure none := by rw [typeLookup_type, builtinLookup_eq_fast]; kernel_rfl
end MF
theorem meets_map_new (f : Value) (l : Addr) (items : Array Value) (n : Nat) :
    Meets (Builtin.«map.__new__» ⟨[.type "map", f, .ref l], []⟩) (fun _ R s => s.heap.get? l = some { cls := .type "list", dict := none, data := .seq items n, slots := #[] } ∧
      R (.ok (.ret (.ref ((s.heap.push { cls := .type "list_iterator", data := .fields #[.ref l, .int 0 0] }).push { cls := .type "tuple", data := .seq #[.ref s.heap.objs.size] }).objs.size)))
        { s with heap := ((s.heap.push { cls := .type "list_iterator", data := .fields #[.ref l, .int 0 0] }).push { cls := .type "tuple", data := .seq #[.ref s.heap.objs.size] }).push { cls := .type "map", data := .fields #[.ref (s.heap.push { cls := .type "list_iterator", data := .fields #[.ref l, .int 0 0] }).objs.size, f] } }) :=
  .of_wp fun prog w A R s h => by
    obtain ⟨hp, g, d, tk, os⟩ := s; obtain ⟨hl, h⟩ := h
    have hsub := MF.sub_map
    have hL : Heap.IsList (Shared.heap ⟨hp, g, d, tk, os⟩) l items := ⟨_, hl, rfl, n, rfl⟩
    wp_walk using wpAny_loadPart' hl, wpAny_pyIter_list hL
    exact ⟨_, rfl, h⟩
/-- a map object over the tuple kt of iterators -/
noncomputable def mapO (kt : Nat) (f : Value) : AO := .gen ⟨fun ρ o => ∃ a, ρ[kt]? = some a ∧ o = { cls := .type "map", dict := none, data := .fields #[.ref a, f], slots := #[] }, fun ρ ρ' o ⟨a, h, r⟩ => ⟨a, idx_app h, r⟩⟩
section
variable {W : Wd} {c : Cx} {st : St}
theorem call_map2 {f : Value} {k : Nat} {l : List AV} {Q : AV → St → Prop} (hk : st.os[k]? = some (.list l))
    (h : Q (.obj (st.os.length + 2)) { st with os := st.os ++ [itO "list_iterator" k 0, .tup [.obj st.os.length], mapO (st.os.length + 1) f] }) : CallV W c st (.type "map") [.fix f, .obj k] Q := fun ρ s E vs r ⟨u, _, e, hu, v, _, e2, hv, e3⟩ => by
  subst e; subst e2; subst e3
  cases (show u = f from hu)
  obtain ⟨a, ws, m, e1, h1, h2, h3⟩ := r.list hk hv
  subst e1
  have r1 := r.alloc (o := itO "list_iterator" k 0) (ob := { cls := .type "list_iterator", data := .fields #[.ref a, .int 0 0] }) ⟨a, h1, rfl, rfl⟩ rfl
  have r2 := r1.alloc (o := .tup [.obj st.os.length]) (ob := { cls := .type "tuple", data := .seq #[.ref s.heap.objs.size] }) ⟨[.ref s.heap.objs.size], 0, rfl, _, [], rfl, ⟨_, by rw [← r.objs.len]; simp, rfl⟩, rfl⟩ rfl
  have r3 := r2.alloc (o := mapO (st.os.length + 1) f) (ob := { cls := .type "map", data := .fields #[.ref (s.heap.push { cls := .type "list_iterator", data := .fields #[.ref a, .int 0 0] }).objs.size, f] }) ⟨_, by rw [← r.objs.len]; simp, rfl⟩ rfl
  refine callType_new MF.called_map (by decide) (MF.typeCall_map_2 _ _) (MF.newCall_map_2 _ _) (fun obj => PySem.F.args_object_init_3 obj _ _) MF.entry_map_new (meets_map_new _ a (List.toArray ws) m) ⟨h2, ?_⟩
  refine ⟨⟨_, Heap.get?_push_size _ rfl, rfl⟩, ?_⟩
  refine ⟨[s.heap.objs.size] ++ [(s.heap.push { cls := .type "list_iterator", data := .fields #[.ref a, .int 0 0] }).objs.size] ++ [((s.heap.push { cls := .type "list_iterator", data := .fields #[.ref a, .int 0 0] }).push { cls := .type "tuple", data := .seq #[.ref s.heap.objs.size] }).objs.size], .obj (st.os.length + 2), _, ?_, ?_, h⟩
  · have e9 : st.os ++ [itO "list_iterator" k 0, .tup [.obj st.os.length], mapO (st.os.length + 1) f] = st.os ++ [itO "list_iterator" k 0] ++ [.tup [.obj st.os.length]] ++ [mapO (st.os.length + 1) f] := by simp
    rw [e9, ← List.append_assoc, ← List.append_assoc]
    exact r3
  · exact ⟨_, by rw [← r.objs.len]; simp, rfl⟩

theorem it_map {k kt : Nat} {f : Value} {Q : AV → St → Prop} (hk : st.os[k]? = some (mapO kt f)) (h : Q (.obj k) st) : It W c st (.obj k) Q := fun ρ s E v r hv => by
  obtain ⟨a, ob, e, h1, h2, b, h3, h4⟩ := r.at_ hk hv
  subst e; subst h4
  have hT : s.TypeIs (.ref a) "map" := ⟨_, h2, rfl⟩
  refine wpAny_pyIter_slot hT MF.slot_map_iter (wpAny_call_entry MF.slot_map_iter hT MF.entry_map_iter ?_ (MF.args_map_iter_1 _))
  show wpAny _ _ (ret (.ref a)) _ _ s
  exact wpAny_pure ⟨_, rfl, "map", _, hT, MF.slot_map_next.lookup, Post.here h r hv⟩

theorem nx_map {k kt kit kl i : Nat} {l : List AV} {f : Value} {Q : Option AV → St → Prop} (hroom : 1 ≤ c.room) (hk : st.os[k]? = some (mapO kt f)) (hkt : st.os[kt]? = some (.tup [.obj kit])) (hi : st.os[kit]? = some (itO "list_iterator" kl i)) (hl : st.os[kl]? = some (.list l))
    (h1 : ∀ a, l[i]? = some a → CallV W c.inn { st with os := st.os.set kit (itO "list_iterator" kl (i + 1)) } f [a] (fun v st' => Q (some v) st')) (h0 : l[i]? = none → Q none { st with os := st.os.set kit anyO }) : Nx W c st (.obj k) Q := fun ρ s E v r hv => by
  obtain ⟨a, ob, e, q1, q2, b, q3, q4⟩ := r.at_ hk hv
  subst e; subst q4
  obtain ⟨b', ts, m, e1, p1, p2, p3⟩ := r.tup hkt (v := .ref b) ⟨b, q3, rfl⟩
  cases e1
  obtain ⟨tv, _, rfl, ⟨ita, g1, g2⟩, rfl⟩ := p3
  subst g2
  obtain ⟨ita', iob, e2, g3, g4, la, g5, g6, g7⟩ := r.at_ hi (v := .ref ita) ⟨ita, g1, rfl⟩
  cases e2
  obtain ⟨la', ws, m2, e3, k1, k2, k3⟩ := r.list hl (v := .ref la) ⟨la, g5, rfl⟩
  cases e3
  have hL : s.heap.IsList la (List.toArray ws) := ⟨_, k2, rfl, m2, rfl⟩
  have hT : s.TypeIs (.ref a) "map" := ⟨_, q2, rfl⟩
  unfold pyNext
  refine wpAny_bind (wpAny_attempt (wpAny_callSpecial?_slot (name := Str.ofString "__next__") hT MF.slot_map_next
    (wpAny_call_entry MF.slot_map_next hT MF.entry_map_next ?_ (MF.args_map_next_1 _))))
  show wpAny _ _ (field (.ref a) 0 >>= _) _ _ s
  refine wpAny_bind (wpAny_field q2 rfl (x := .ref b) rfl ?_)
  refine wpAny_bind (wpAny_seqItems p2 rfl ?_)
  dsimp only
  rw [← Array.forIn_toList]
  show wpAny _ _ (forIn [Value.ref ita] _ _ >>= _) _ _ _
  rw [List.forIn_cons]
  cases q : l[i]? with
  | none =>
    refine wpAny_bind (wpAny_bind (wpAny_bind (wpAny_holding (nextOf_end r.ok.hd ⟨iob, g4, g6, g7⟩ hL (by have := k3.length; simp at q ⊢; lsm_bools) fun h' x ob he hob hx => ?_))))
    obtain ⟨o, ho, hc⟩ := hx
    refine wpAny_bind (wpAny_isInstance (T := "StopIteration") (b := true) ⟨o, ho, hc⟩ isSubtype_stop ?_)
    exact wpAny_pure ⟨[], none, _, by rw [List.append_nil]; exact r.alter (n := s.toks) (o' := anyO) g1 he hob trivial, rfl, h0 q⟩
  | some x =>
    obtain ⟨u, hu, hru⟩ := k3.get q
    refine wpAny_bind (wpAny_bind (wpAny_bind (wpAny_holding (wpAny_nextOf_list_item (x := u) ⟨iob, g4, g6, g7⟩ hL (by simpa using hu) fun h' hi' hs' => ?_))))
    refine wpAny_pure ?_
    dsimp only
    rw [List.forIn_nil]
    refine wpAny_pure ?_
    obtain ⟨oi, hoi, hci, hdi⟩ := hi'
    have r2 : Rp W c ρ { st with os := st.os.set kit (itO "list_iterator" kl (i + 1)) } { s with heap := h' } := r.alter (n := s.toks) (o' := itO "list_iterator" kl (i + 1)) g1 hs'.extBut hoi ⟨la, g5, hci, hdi⟩
    have hne : a ≠ ita := by
      intro e; subst e
      rw [q2] at g4; cases g4
      exact absurd g6 (by simp)
    have hma := (hs'.2 a hne).trans q2
    refine wpAny_bind (wpAny_field hma rfl (x := f) rfl ?_)
    refine wpAny_bind (wpAny_holding (wpAny_mono (h1 x q ρ _ _ [u] (r2.inn hroom) ⟨u, [], rfl, hru, rfl⟩) (fun v2 s2 p => ?_) fun _ _ x => x))
    obtain ⟨ρ2, av, st2, r3, rv, hq⟩ := p
    refine wpAny_bind (wpAny_letGo ?_)
    exact wpAny_pure ⟨_, rfl, wpAny_pure ⟨ρ2, some av, st2, r3.out r.ok, ⟨_, rfl, rv⟩, hq⟩⟩
end
end
-- VY
section
open AutoSeq1 (wpAny_loadPart')
/-- a step that a walk leaves -/
noncomputable def Held (p : Prop) : Prop := p
section
variable {prog : Program} {w : World} {A : Around} {s : Shared}
theorem collect_held {E : Value → Shared → Prop} {Q : List Value → Shared → Prop} {v : Value} (h : Held (wpAny (model prog w) A (collect v) Q E s)) : wpAny (model prog w) A (collect v) Q E s := h
/-- tuple(x): what is left when x has been taken in -/
theorem tuple_new_tree {I : Addr} {T : String} {R : Result → Shared → Prop} (hT : s.TypeIs (.ref I) T) (hne : (Value.type T == Value.type "tuple") = false)
    (h : wpAny (model prog w) A.in1 (collect (.ref I)) (fun vs s' => vs.length ≤ sizeLine ∧ R (.ok (.ret (.ref s'.heap.objs.size))) { s' with heap := s'.heap.push { cls := .type "tuple", data := .seq vs.toArray } }) (fun e s' => R (.error e) s') s) :
    wpAny (model prog w) A.in1 (Builtin.«tuple.__new__» ⟨[.type "tuple", .ref I], []⟩) (fun fin s' => match fin with | .done f => R (.ok f) s' | .again c' => c'.quiet = true ∧ codeAny (model prog w) A c' R s') (fun e s' => R (.error e) s') s := by
  obtain ⟨hp, g, d, tk, os⟩ := s
  have hsub := sub_tuple_self
  have hinit := init_tuple_lookup
  have hmh := madeHere_tuple
  wp_walk using wpAny_typeOf hT, collect_held
  refine wpAny_mono h (fun vs s' ⟨hz, hR⟩ => ?_) fun _ _ x => x
  refine wpAny_bind (wpAny_pure ?_)
  show wpAny _ _ (Builtin.Tuple.tupleExact vs.toArray >>= fun v => ret v) _ _ _
  unfold Builtin.Tuple.tupleExact
  refine wpAny_bind (wpAny_newObj_type ?_ (by show vs.toArray.size ≤ sizeLine; simpa using hz))
  exact wpAny_pure hR
end
section
variable {W : Wd} {c : Cx} {st : St}
inductive TmI (st : St) (kit kl : Nat) (l : List AV) (n : Nat) (st' : St) : Prop
  | mk (i : Nat) (h1 : n + i = l.length + 1) (h2 : i ≤ l.length) (h3 : st'.m = st.m) (h4 : st'.gn = st.gn) (h5 : ∀ (i' : Nat) (o : AO), i' ≠ kit → st.os[i']? = some o → st'.os[i']? = some o) (h6 : st'.os[kit]? = some (itO "list_iterator" kl i)) (h7 : st'.os[st.os.length]? = some (.list (l.take i)))
/-- tuple(map(f, l)), where f gives back what it is given -/
theorem call_tuple_map {k kt kit kl : Nat} {l : List AV} {f : Value} {Q : AV → St → Prop} (hroom : 4 ≤ c.room) (hk : st.os[k]? = some (mapO kt f)) (hkt : st.os[kt]? = some (.tup [.obj kit])) (hi : st.os[kit]? = some (itO "list_iterator" kl 0)) (hl : st.os[kl]? = some (.list l)) (hz : l.length ≤ 1000)
    (hne1 : kit ≠ k) (hne2 : kit ≠ kt) (hne3 : kit ≠ kl)
    (hf : ∀ (c' : Cx) (st' : St) (a : AV) (Q' : AV → St → Prop), c.room ≤ c'.room + 4 → a ∈ l → (∀ os' : List AO, Ext st'.os os' → Q' a { st' with os := os' }) → CallV W c' st' f [a] Q')
    (h : ∀ (os' : List AO) (j : Nat), (∀ (i : Nat) (o : AO), i ≠ kit → st.os[i]? = some o → os'[i]? = some o) → st.os.length ≤ j → os'[j]? = some (.tup l) → Q (.obj j) { st with os := os' }) :
    CallV W c st (.type "tuple") [.obj k] Q := fun ρ s E vs r ⟨v, _, e, hv, e2⟩ => by
  subst e; subst e2
  obtain ⟨a, ob, e, q1, q2, b, q3, q4⟩ := r.at_ hk hv
  subst e; subst q4
  have hT : s.TypeIs (.ref a) "map" := ⟨_, q2, rfl⟩
  refine callType_newIn (S := fun A R s => wpAny (model W.prog W.w) A.in1 (Builtin.«tuple.__new__» ⟨[.type "tuple", .ref a], []⟩) (fun fin s' => match fin with | .done f => R (.ok f) s' | .again c' => c'.quiet = true ∧ codeAny (model W.prog W.w) A c' R s') (fun e s' => R (.error e) s') s)
    PySem.F.called_tuple (by decide) (PySem.F.typeCall_tuple_1 _) (PySem.F.newCall_tuple_1 _) (fun obj => PySem.F.args_object_init_2 obj _) PySem.F.entry_tuple_new (fun _ _ _ h => h) ?_
  refine tuple_new_tree hT (by decide) ?_
  have hkl : kit < st.os.length := (List.getElem?_eq_some_iff.mp hi).1
  refine wp_collect (c := c.inn.inn) (Q := fun l' st' => l' = l ∧ st'.m = st.m ∧ st'.gn = st.gn ∧ (∀ (i' : Nat) (o : AO), i' ≠ kit → st.os[i']? = some o → st'.os[i']? = some o) ∧ st.os.length ≤ st'.os.length) hT MF.map_no_len MF.map_no_hint (by decide) (by decide) (by show 1 ≤ c.room - 1 - 1; lsm_bools) ((r.inn (by lsm_bools)).inn (by show 1 ≤ c.room - 1; lsm_bools)) q1 ?_ (TmI st kit kl l) (l.length + 1) ?_ ?_ ?_
  · intro s' Q' E' hkp hq
    have hT' : s'.TypeIs (.ref a) "map" := ⟨_, hkp _ _ q2, rfl⟩
    refine wpAny_pyIter_slot hT' MF.slot_map_iter (wpAny_call_entry MF.slot_map_iter hT' MF.entry_map_iter ?_ (MF.args_map_iter_1 _))
    show wpAny _ _ (ret (.ref a)) _ _ s'
    exact wpAny_pure ⟨_, rfl, "map", _, hT', MF.slot_map_next.lookup, hq⟩
  · exact ⟨0, rfl, Nat.zero_le _, rfl, rfl, fun i' o _ e => idx_app e, idx_app hi, by simp⟩
  · rintro n ⟨mm, os, gg⟩ ⟨i, hn, hil, rfl, rfl, hold, hit, hacc⟩
    dsimp only at hold hit hacc
    have hlen : st.os.length < os.length := (List.getElem?_eq_some_iff.mp hacc).1
    refine nx_map (by show 1 ≤ c.room - 1 - 1 - 1; lsm_bools) (hold _ _ (Ne.symm hne1) hk) (hold _ _ (Ne.symm hne2) hkt) hit (hold _ _ (Ne.symm hne3) hl) (fun x hx => ?_) (fun hx => ?_)
    · refine hf _ _ x _ (by show c.room ≤ c.room - 1 - 1 - 1 - 1 + 4; lsm_bools) (List.mem_of_getElem? hx) fun os5 he5 => ?_
      have hlt : i < l.length := (List.getElem?_eq_some_iff.mp hx).1
      dsimp only at he5
      have hacc5 := he5 st.os.length (.list (l.take i)) (by rw [List.getElem?_set_ne (by lsm_bools)]; exact hacc)
      have hit5 := he5 kit (itO "list_iterator" kl (i + 1)) (List.getElem?_set_self (by lsm_bools))
      refine ⟨l.take i, hacc5, by rw [List.length_take]; lsm_bools, n - 1, by lsm_bools, i + 1, by lsm_bools, by lsm_bools, rfl, rfl, fun i' o hne e => ?_, ?_, ?_⟩
      · have : i' < st.os.length := (List.getElem?_eq_some_iff.mp e).1
        rw [List.getElem?_set_ne (by lsm_bools)]
        exact he5 _ _ (by rw [List.getElem?_set_ne (Ne.symm hne)]; exact hold _ _ hne e)
      · rw [List.getElem?_set_ne (by lsm_bools)]; exact hit5
      · rw [← take_snoc hx]; exact List.getElem?_set_self (List.getElem?_eq_some_iff.mp hacc5).1
    · have hi2 : i = l.length := by have : l.length ≤ i := by simpa using hx
                                    lsm_bools
      refine ⟨l.take i, by rw [List.getElem?_set_ne (by lsm_bools)]; exact hacc, rfl, by rw [hi2, List.take_length], rfl, rfl, fun i' o hne e => ?_, by dsimp only; rw [List.length_set]; lsm_bools⟩
      rw [List.getElem?_set_ne (Ne.symm hne)]; exact hold _ _ hne e
  · rintro ρ' l' vs ⟨mm, os, gg⟩ s' r' hv' ⟨rfl, rfl, rfl, hold, hlen⟩
    have hvl := hv'.length
    refine ⟨by unfold sizeLine; lsm_bools, ⟨_, Heap.get?_push_size _ rfl, rfl⟩, ?_⟩
    have rr := r'.out (c := c.inn) ((r.inn (by lsm_bools)).ok)
    have rr2 := rr.out (c := c) r.ok
    exact Post.ext (Post.new (n := s'.toks) rr2 (o := .tup l') ⟨vs, 0, rfl, hv'⟩ rfl (h _ _ (fun i o hne e => idx_app (hold i o hne e)) hlen (by simp)))
end
end
-- VZ
section
open AutoSeq1 (wpAny_loadPart')
theorem sub_str_str : isSubtype (.type "str") (.type "str") = pure true := by rw [isSubtype_type]; kernel_rfl
section
variable {prog : Program} {w : World} {A : Around} {E : Value → Shared → Prop} {s : Shared}
theorem nested_str {k : Value} {dep : Int} {tk : Tok} {Q : Fin → Shared → Prop} (hk : k = .int dep tk) (hq : Q (.done (.ret (.bool true))) s) :
    wpAny (model prog w) A (Builtin.«issubclass.nested» ⟨[.type "str", .type "str", k], []⟩) Q E s := by
  subst hk
  have hs := sub_str_str
  repeat (any_goals (first | assumption | (rw [hs]) | wp_step))
theorem kind_nested : builtinKind "issubclass.nested" = none := by decide +kernel
theorem plain_nested : plainId "issubclass.nested" = true := by decide +kernel
theorem args_nested (a b : Value) (i : Int) (t : Tok) : argsOk "issubclass.nested" ⟨[a, b, .int i t], []⟩ := by unfold argsOk; kernel_rfl
theorem nested_tup {t : Addr} {n : Nat} {Q : Fin → Shared → Prop} (ht : s.heap.get? t = some { cls := .type "tuple", data := .seq #[.type "str", .type "bytes"] n }) (hq : Q (.done (.ret (.bool true))) s) :
    wpAny (model prog w) A (Builtin.«issubclass.nested» ⟨[.type "str", .ref t, rawInt 0], []⟩) Q E s := by
  obtain ⟨hp, g, d, tk, os⟩ := s
  wp_walk using wpAny_loadPart' ht
  refine wpAny_of_eq isSubtype_tuple_tuple ?_
  rw [if_pos rfl]
  dsimp only
  rw [if_neg (by decide)]
  refine wpAny_bind (wpAny_seqItems ht rfl ?_)
  show wpAny _ _ (forIn #[Value.type "str", Value.type "bytes"] _ _ >>= _) _ _ _
  rw [← Array.forIn_toList]
  show wpAny _ _ (forIn [Value.type "str", Value.type "bytes"] _ _ >>= _) _ _ _
  rw [List.forIn_cons]
  refine wpAny_bind (wpAny_bind (wpAny_bind (call_function_entry kind_nested plain_nested PySem.F.entry_issubclass_nested (args_nested _ _ _ _) (nested_str rfl ?_))))
  exact ⟨_, rfl, wpAny_bind (wpAny_truthy_bool (wpAny_bind (wpAny_pure (wpAny_pure (wpAny_pure (wpAny_pure hq))))))⟩
end
section
variable {W : Wd} {c : Cx} {st : St}
theorem call_typeS {x : Str} {Q : AV → St → Prop} (h : Q (.fix (.type "str")) st) : CallV W c st (.type "type") [.str x] Q := fun ρ s E vs r ⟨v, _, e, ⟨t, ev⟩, e'⟩ => by
  subst e; subst e'; subst ev
  exact call_type_of (PySem.typeIs_str s x t) (by decide) (Post.here h r rfl)
/-- issubclass(str, (str, bytes)) -/
theorem call_issubST {j : Nat} {Q : AV → St → Prop} (hj : st.os[j]? = some (.tup [.fix (.type "str"), .fix (.type "bytes")])) (h : Q (.bool true) st) : CallV W c st (.builtin "issubclass") [.fix (.type "str"), .obj j] Q := fun ρ s E vs r ⟨v, _, e, hv, v2, _, e2, hv2, e3⟩ => by
  subst e; subst e2; subst e3
  cases (show v = .type "str" from hv)
  obtain ⟨a, ws, n, e1, h1, h2, h3⟩ := r.tup hj hv2
  subst e1
  obtain ⟨u1, _, rfl, hu1, u2, _, rfl, hu2, rfl⟩ := h3
  cases (show u1 = .type "str" from hu1)
  cases (show u2 = .type "bytes" from hu2)
  have g : Meets (Builtin.«issubclass» ⟨[.type "str", .ref a], []⟩) (fun A R s' => s'.heap.get? a = some { cls := .type "tuple", data := .seq #[.type "str", .type "bytes"] n } ∧ R (.ok (.ret (.bool true))) s') := fun prog w A R s' ⟨q1, q2⟩ => issubclass_outer (nested_tup q1 q2)
  exact call_function_meets PySem.F.kind_issubclass PySem.F.plain_issubclass PySem.F.entry_issubclass (PySem.F.args_issubclass_2 _ _) g ⟨h2, Post.here h r rfl⟩
end
end
-- EF
theorem spec_fspath {w : World} {c : Cx} {st : St} {x : Str} {Q : AV → St → Prop} (hr : 2 ≤ c.room) (h : ∀ os', Ext st.os os' → Q (.str x) { st with os := os' }) : CallV (WW w) c st (.ref 117) [.str x] Q := by
  (refine' call_pos (m0 := [(Str.ofString "path", .str x)]) ?ho ?hcd ?room ?hb ?hm ?hloc ?c1 ?c2 ?c3 ?c4 ?_; (case ho => (((try dsimp only [WW]); k_is))); (case hcd => (((try dsimp only [WW]); k_is))); (case c1 => exact rfl); (case c2 => exact rfl); (case c3 => exact rfl); (case c4 => decide); (case hm => (simp only [List.map_cons, List.map_nil]; decide)); (case hloc => (simp only [List.map_cons, List.map_nil]; decide)); (case room => lsm_bools); (case hb => first | (refine hb1 ?_; intro a; kernel_rfl) | (refine hb2 ?_; intro a b; kernel_rfl) | (refine hb3 ?_; intro a b d; kernel_rfl)))
  intro c' hs hcl hrm
  repeat' (first | tb_start | with_reducible first | refine ex_cons ?_ | refine ex_If ?_)
  refine call_typeS ?_
  repeat' (first | tb_start | with_reducible first | refine ex_cons ?_ | refine ex_If ?_)
  refine tt_plain rfl ?_
  repeat' (first | tb_start | with_reducible first | refine ex_cons ?_ | refine ex_If ?_)
  refine ⟨by decide, ?_⟩
  repeat' (first | tb_start | with_reducible first | refine ex_cons ?_ | refine ex_If ?_)
  refine call_issubST app_at ?_
  repeat' (first | tb_start | with_reducible first | refine ex_cons ?_ | refine ex_If ?_)
  exact h _ (Ext.app _ _)
-- WA
section
variable {W : Wd} {c : Cx} {st : St}
/-- try, without a raise -/
theorem ex_Try0 {body orelse : List Stmt} {h0 : ExceptHandler} {hs : List ExceptHandler} {pos : Pos} {Q : AF → St → Prop}
    (h : Ex W c st (execs body c.env) (fun f st1 => (f = .next → Ex W c st1 (execs orelse c.env) Q) ∧ (f ≠ .next → Q f st1))) : Ex W c st (exec (.Try body (h0 :: hs) orelse [] pos) c.env) Q := fun ρ s E r =>
  wpAny_Try_except (wp_on h r fun ρ1 f st1 fl s1 r1 rf h1 => by
    cases f with
    | next => cases rf; exact wp_go (h1.1 rfl) r1
    | brk => cases rf; exact Post.on (h1.2 nofun) r1 rfl
    | cont => cases rf; exact Post.on (h1.2 nofun) r1 rfl
    | ret a => obtain ⟨u, e, q⟩ := rf; subst e; exact Post.on (h1.2 nofun) r1 ⟨u, rfl, q⟩)
theorem ex_Try {body orelse : List Stmt} {h0 : ExceptHandler} {hs : List ExceptHandler} {pos : Pos} {Q : AF → St → Prop} (h : Ex W c st (execs body c.env) (SeqQ W c orelse c.env Q)) : Ex W c st (exec (.Try body (h0 :: hs) orelse [] pos) c.env) Q := ex_Try0 h
/-- str.startswith -/
theorem call_startswith {x y : Str} {Q : AV → St → Prop} (h : Q (.bool (0 + y.length ≤ x.length && Builtin.Str.subAt x y 0)) st) : CallV W c st (.builtin "str.startswith") [.str x, .str y] Q := fun ρ s E vs r ⟨v, _, e, ⟨t, ev⟩, v2, _, e2, ⟨t2, ev2⟩, e3⟩ => by
  subst e; subst e2; subst e3; subst ev; subst ev2
  exact call_gives PySem.F.slot_str_startswith (PySem.typeIs_str s x t) PySem.F.entry_str_startswith (PySem.F.args_str_startswith_2 _ _) (gives_str_startswith x y t t2) (Post.here h r rfl)
theorem sub_str_bytes : isSubtype (.type "str") (.type "bytes") = pure false := by rw [isSubtype_type]; kernel_rfl
/-- isinstance(a string, bytes), isinstance(a string, str) -/
theorem call_isiSB {x : Str} {Q : AV → St → Prop} (h : Q (.bool false) st) : CallV W c st (.builtin "isinstance") [.str x, .fix (.type "bytes")] Q := fun ρ s E vs r ⟨v, _, e, ⟨t, ev⟩, v2, _, e2, hv2, e3⟩ => by
  subst e; subst e2; subst e3; subst ev
  cases (show v2 = .type "bytes" from hv2)
  exact call_isinstance (isinstance_false_str (by decide +kernel) PySem.F.isi_meta_bytes sub_str_bytes) (Post.here h (r.toks _) rfl)
theorem call_isiSS {x : Str} {Q : AV → St → Prop} (h : Q (.bool true) st) : CallV W c st (.builtin "isinstance") [.str x, .fix (.type "str")] Q := fun ρ s E vs r ⟨v, _, e, ⟨t, ev⟩, v2, _, e2, hv2, e3⟩ => by
  subst e; subst e2; subst e3; subst ev
  cases (show v2 = .type "str" from hv2)
  exact call_isinstance (isinstance_true (Tx := "str") PySem.F.isi_meta_str sub_str_str) ⟨PySem.typeIs_str s x t, Post.here h r rfl⟩
/-- truth of a tuple -/
theorem tr_tup {k : Nat} {l : List AV} {Q : Bool → St → Prop} (hk : st.os[k]? = some (.tup l)) (hz : l.length ≤ 100000) (h : Q (!l.isEmpty) st) : Op1 W c BR st (.obj k) truthy Q := fun ρ s E v r hv => by
  obtain ⟨a, vs, n, e1, h1, h2, h3⟩ := r.tup hk hv
  subst e1
  have hl := h3.length
  refine truthy_tuple (items := List.toArray vs) ⟨_, h2, rfl, n, rfl⟩ (by simp only [List.size_toArray]; lsm_bools) ?_
  have e : (!(List.toArray vs).isEmpty) = !l.isEmpty := by
    cases l with
    | nil => have : vs = [] := List.length_eq_zero_iff.mp hl
             subst this; rfl
    | cons a l => cases vs with
      | nil => simp at hl
      | cons v vs => rfl
  rw [e]
  exact Post.here h (r.toks _) rfl
end
-- WB
/-- truth values as keys -/
noncomputable def boolKind (prog : Program) (w : World) : KeyKind prog w Bool where
  is k v := v == .bool k
  hash k := if k then 1 else 0
  inj v a b h1 h2 := by
    have e1 := eq_of_beq h1
    have e2 := eq_of_beq h2
    rw [e1] at e2; exact Value.bool.inj e2
  byValue k v h := by rw [eq_of_beq h]; rfl
  pyHash {A E s k v Q} h hq := by
    rw [eq_of_beq h]
    unfold PySem.pyHash
    have hv : [Value.bool k].any Value.onHeap = false := rfl
    refine wpAny_bind ?_
    rw [cRoomFor, if_neg (by rw [hv]; exact Bool.false_ne_true)]; refine wpAny_pure ?_
    have hT : s.TypeIs (.bool k) "bool" := rfl
    refine wpAny_bind (wpAny_specialOf hT PySem.F.slot_bool_hash.lookup ?_)
    show wpAny _ _ (if (some (Value.builtin "int.__hash__") == some Value.none) = true then _ else _) Q E s
    rw [if_neg (by rw [beq_builtin_none]; exact Bool.false_ne_true)]
    refine wpAny_bind (wpAny_specialOf hT PySem.F.slot_bool_hash.lookup ?_)
    show wpAny _ _ (callSpecialIfBoundUnlessNone? (.bool k) "__hash__" _ >>= _) Q E s
    refine wpAny_bind (wpAny_callSpecialIfBoundUnlessNone?_slot hT PySem.F.slot_bool_hash
      (wpAny_call_entry PySem.F.slot_bool_hash hT entry_int_hash
        (show wpAny _ _ (do ret (← mkInt (rawHash (if k then 1 else 0)))) _ _ s from wpAny_ret_mkInt ?_) (args_int_hash _)))
    cases k
    · exact wpAny_pure hq
    · exact wpAny_pure hq
  eqBool {A E s a b u v Q} h1 h2 hq := by
    rw [eq_of_beq h1, eq_of_beq h2]
    unfold PySem.eqBool
    cases a <;> cases b
    · exact wpAny_bind (wpAny_rule (wpAny_pure hq))
    · exact wpAny_bind (PyProof.Rows.eq_bool (by first | exact wpAny_truthy_bool hq | exact wpAny_pure hq))
    · exact wpAny_bind (PyProof.Rows.eq_bool (by first | exact wpAny_truthy_bool hq | exact wpAny_pure hq))
    · exact wpAny_bind (wpAny_rule (wpAny_pure hq))
  «strs» := fun k x t v h => by have := eq_of_beq h; cases this
-- WC
theorem compTurn_set1 (elt target iter : Expr) (scope : Scope) (pos : Pos) (it acc : Value) (env : Env) :
    compTurn (.SetComp elt [⟨target, iter, [], 0⟩] scope pos) 0 it acc env = (standAt iter.pos >>= fun _ => pyNext it >>= fun r => match r with
      | none => pure (.done .next)
      | some v => letOwnedTupleGo target it v >>= fun _ => assign target env v >>= fun _ =>
        (eval elt env >>= fun x => standAt elt.pos >>= fun _ => call (.builtin "set.add") [acc, x] >>= fun _ => pure ()) >>= fun _ =>
          again (.compLoop (.SetComp elt [⟨target, iter, [], 0⟩] scope pos) 0 it acc env)) := by rfl
section
variable {prog : Program} {w : World} {A : Around} {R : Result → Shared → Prop} {s : Shared}
theorem codeAny_compLoop_set {elt target iter : Expr} {scope : Scope} {pos : Pos} {it acc : Value} {env : Env} (I : Nat → Shared → Prop)
    (turn : ∀ n s, I n s → wpAny (model prog w) A (pyNext it) (fun r s₁ => match r with
      | none => R (.ok .next) s₁
      | some v => wpAny (model prog w) A (assign target env v) (fun _ s₂ => wpAny (model prog w) A (eval elt env) (fun x s₃ =>
          wpAny (model prog w) A (call (.builtin "set.add") [acc, x]) (fun _ s₄ => ∃ m, m < n ∧ I m s₄) (notedBy (model prog w) A env fun e s' => R (.error e) s') s₃)
          (notedBy (model prog w) A env fun e s' => R (.error e) s') s₂) (notedBy (model prog w) A env fun e s' => R (.error e) s') s₁) (notedBy (model prog w) A env fun e s' => R (.error e) s') s)
    (n : Nat) (h : I n s) (ht : ∀ v, letOwnedTupleGo target it v = pure ()) :
    codeAny (model prog w) A (.compLoop (.SetComp elt [⟨target, iter, [], 0⟩] scope pos) 0 it acc env) R s := by
  refine codeAny_loop rfl I (fun n s hI => ?_) n h
  show wpAny _ _ ((compTurn (.SetComp elt [⟨target, iter, [], 0⟩] scope pos) 0 it acc env).onRaise (fun x => do noteFrame x env; theTreesLotGoes x)) _ _ s
  refine wpAny_noted ?_
  rw [compTurn_set1]
  refine wpAny_bind (wpAny_standAt (wpAny_bind (wpAny_mono (turn n s hI) (fun r s₁ h₁ => ?_) fun _ _ h' => h')))
  cases r with
  | none => exact wpAny_pure h₁
  | some v =>
    refine wpAny_bind (wpAny_of_eq (ht v) ?_)
    exact wpAny_bind (wpAny_mono h₁ (fun _ s₂ h₂ => wpAny_bind (wpAny_bind (wpAny_mono h₂ (fun x s₃ h₃ => wpAny_bind (wpAny_standAt (wpAny_bind (wpAny_mono h₃
      (fun _ s₄ h₄ => wpAny_pure (wpAny_pure ⟨rfl, h₄⟩)) fun _ _ h' => h')))) fun _ _ h' => h'))) fun _ _ h' => h')
end
-- WD
namespace MF
theorem slot_set_iter : Slot "set" "__iter__" "set.__iter__" :=
  .of (owner := "set") (n := "__iter__") (by rw [typeLookup_type, builtinLookup_eq_fast]; kernel_rfl) (by decide +kernel) (by decide +kernel) (by decide +kernel)
    (by first | exact .inl (by decide +kernel) | exact .inr (by decide +kernel)) (by rw [isSubtype_type]; kernel_rfl)
theorem slot_setit_iter : Slot "set_iterator" "__iter__" "set_iterator.__iter__" :=
  .of (owner := "set_iterator") (n := "__iter__") (by rw [typeLookup_type, builtinLookup_eq_fast]; kernel_rfl) (by decide +kernel) (by decide +kernel) (by decide +kernel)
    (by first | exact .inl (by decide +kernel) | exact .inr (by decide +kernel)) (by rw [isSubtype_type]; kernel_rfl)
theorem slot_setit_next : Slot "set_iterator" "__next__" "set_iterator.__next__" :=
  .of (owner := "set_iterator") (n := "__next__") (by rw [typeLookup_type, builtinLookup_eq_fast]; kernel_rfl) (by decide +kernel) (by decide +kernel) (by decide +kernel)
    (by first | exact .inl (by decide +kernel) | exact .inr (by decide +kernel)) (by rw [isSubtype_type]; kernel_rfl)
theorem entry_setit_next : entryFor table "set_iterator.__next__" = some Builtin.«set_iterator.__next__» := entryFor_of_tree (by kernel_rfl)
theorem entry_set_iter : entryFor table "set.__iter__" = some Builtin.«frozenset.__iter__» :=
  entryFor_alias (id' := "frozenset.__iter__") (by rw [fastTable_eq_tree]; kernel_rfl) (by decide +kernel) (by decide +kernel) (by rw [fastTable_eq_tree]; kernel_rfl)
theorem owner_set2 : Manifest.owners.lookup (String.ofList ['t', 'e', 's'].reverse) = some Manifest.sig_set := by kernel_rfl
theorem owner_setit : Manifest.owners.lookup (String.ofList ['r', 'o', 't', 'a', 'r', 'e', 't', 'i', '_', 't', 'e', 's'].reverse) = some Manifest.sig_set_iterator := by kernel_rfl
theorem args_set_iter_1 (a : Value) : argsOk "set.__iter__" ⟨[a], []⟩ := by
  unfold argsOk; rw [signature?_of (id := "set.__iter__") (n := ['_', '_', 'r', 'e', 't', 'i', '_', '_']) (o := ['t', 'e', 's']) (by kernel_rfl) owner_set2]; kernel_rfl
theorem args_setit_next_1 (a : Value) : argsOk "set_iterator.__next__" ⟨[a], []⟩ := by
  unfold argsOk; rw [signature?_of (id := "set_iterator.__next__") (n := ['_', '_', 't', 'x', 'e', 'n', '_', '_']) (o := ['r', 'o', 't', 'a', 'r', 'e', 't', 'i', '_', 't', 'e', 's']) (by kernel_rfl) owner_setit]; kernel_rfl
end MF
noncomputable def bh (b : Bool) : Int := if b then 1 else 0
noncomputable def setT (b led : Bool) : SetTable := { mask := 7, place := #[if b then 1 else 0], dummies := #[], finger := 0, led := led, moves := 0, plain := true }
noncomputable def setD (led : Bool) (ep : Nat) : Option Bool → Data
  | none => .set #[] ep (.fresh 0 0 led)
  | some b => .set #[(bh b, .bool b)] ep (setT b led)
noncomputable def setOb (led : Bool) (ep : Nat) (o : Option Bool) : Obj := { cls := .type "set", dict := none, data := setD led ep o, slots := #[] }
noncomputable def setO (led : Bool) (o : Option Bool) : AO := .gen ⟨fun _ ob => ∃ ep, ob = setOb led ep o, fun _ _ _ h => h⟩
/-- an iterator of the set k, before (d = false) or after its one item -/
noncomputable def siO (k : Nat) (b : Option Bool) : AO := .gen ⟨fun ρ ob => ∃ a ep, ρ[k]? = some a ∧ ob = { cls := .type "set_iterator", dict := none, data := .fields #[rawInt (match b with | none => 0 | some b => ((bh b).toNat + 1 : Nat)), rawInt (match b with | none => 0 | some _ => 1), .ref a, rawInt 1, rawInt ep], slots := #[] }, fun ρ ρ' o ⟨a, ep, h, r⟩ => ⟨a, ep, idx_app h, r⟩⟩
theorem layNew_bool (b led : Bool) : layNew (.fresh 0 0 led) #[] (bh b) (.bool b) = (#[(bh b, .bool b)], setT b led, false, false) := by
  cases b <;> cases led <;> rfl
section
variable {prog : Program} {w : World} {A : Around} {E : Value → Shared → Prop} {s : Shared}
theorem slot_args0 {x : String} {v : Value} {Q : Value × List Value → Shared → Prop} (h : Q (v, []) s) : wpAny (model prog w) A (slotArgs x 0 ⟨[v], []⟩) Q E s := by
  show wpAny _ _ (pure (v, [])) _ _ _
  exact wpAny_pure h
theorem add_set {a : Addr} {led : Bool} {ep : Nat} {o : Option Bool} {b : Bool} {Q : Value → Shared → Prop} (ho : s.heap.get? a = some (setOb led ep o)) (hb : o = none ∨ o = some b)
    (h : ∀ h' ep', Heap.SameBut a s.heap h' → h'.get? a = some (setOb led ep' (some b)) → Q .none { s with heap := h', toks := s.toks + 1 }) :
    wpAny (model prog w) A (call (.builtin "set.add") [.ref a, .bool b]) Q E s := by
  refine wpAny_call_entry PySem.F.slot_set_add ⟨_, ho, rfl⟩ PySem.F.entry_set_add ?_ (PySem.F.args_set_add_2 _ _)
  unfold Builtin.«set.add» Builtin.Frozenset.oneOther
  simp only [List.isEmpty_nil, bind_assoc]
  unfold Builtin.Frozenset.addrOf setAdd
  refine wpAny_bind (wpAny_pure ?_)
  try dsimp only
  refine wpAny_bind (wpAny_pure ?_)
  try dsimp only
  refine wpAny_bind ?_
  refine wpAny_holding ?_
  refine wpAny_bind ((boolKind prog w).pyHash (k := b) (by show (Value.bool b == Value.bool b) = true; cases b <;> rfl) ?_)
  unfold setAddHashed setAddHashedIn
  rcases hb with rfl | rfl
  · refine wpAny_holding (wpAny_bind (wpAny_setState_of (es := #[]) (ep := ep) (t := .fresh 0 0 led) ho rfl (by rfl) ?_))
    dsimp only
    rw [show byScan (.bool b) #[] = true from by cases b <;> decide +kernel]
    simp only [↓reduceIte]
    unfold setAddByScan
    refine wpAny_bind ?_
    refine wpAny_bind (wpAny_rule ?_)
    refine wpAny_bind (wpAny_pure ?_)
    dsimp only
    show wpAny _ _ (do _) _ _ _
    rw [show (boolKind prog w).hash b = bh b from rfl, layNew_bool]
    dsimp only
    refine wpAny_bind (wpAny_pure ?_)
    show wpAny _ _ (do _) _ _ _
    refine wpAny_bind (m := hashByValue 8 (.bool b)) (wpAny_pure ?_)
    refine wpAny_bind (wpAny_storeSet_of (s := { s with toks := s.toks + 1 }) ho rfl ?_ (show 1 ≤ 2 ^ 24 by decide))
    simp only [↓reduceIte]
    rw [show (!false && (setT b led).tooFull) = false from by cases b <;> cases led <;> rfl]
    refine wpAny_pure ?_
    dsimp only
    refine wpAny_pure ?_
    refine wpAny_pure ⟨_, rfl, h _ (ep + 1) (Heap.SameBut.update ..) ?_⟩
    exact Heap.get?_update_self _ ho rfl
  · refine wpAny_holding (wpAny_bind (wpAny_setState_of (es := #[(bh b, .bool b)]) (ep := ep) (t := setT b led) ho rfl (by cases b <;> rfl) ?_))
    dsimp only
    rw [show byScan (.bool b) #[(bh b, .bool b)] = true from by cases b <;> decide +kernel]
    simp only [↓reduceIte]
    unfold setAddByScan
    refine wpAny_bind ?_
    refine wpAny_bind (wpAny_rule ?_)
    refine wpAny_bind (wpAny_setScan_of (knd := boolKind prog w) (k := b) (by show (Value.bool b == Value.bool b) = true; cases b <;> rfl) (s := { s with toks := s.toks + 1 }) ho rfl (by cases b <;> rfl) ?_ ?_)
    · intro e he
      simp only [List.mem_singleton] at he
      subst he
      exact ⟨⟨b, by show (Value.bool b == Value.bool b) = true; cases b <;> rfl, rfl⟩, rfl⟩
    · rw [show List.findIdx? (fun e : Int × Value => (boolKind prog w).is b e.2) #[(bh b, Value.bool b)].toList = some 0 from by
        show (if (Value.bool b == Value.bool b) = true then some 0 else _) = some 0
        rw [if_pos (by cases b <;> rfl)]]
      dsimp only
      refine wpAny_pure (wpAny_pure ?_)
      exact wpAny_pure ⟨_, rfl, h _ ep (Heap.SameBut.refl a s.heap) ho⟩
theorem new_set {Q : Value → Shared → Prop} (h : Q (.ref s.heap.objs.size) { s with heap := s.heap.push (setOb (!(w.params.followText "set-order")) 0 none) }) : wpAny (model prog w) A (newSet (.type "set")) Q E s := by
  unfold newSet setsByText
  refine wpAny_bind (wpAny_bind (wpAny_askSetting (wpAny_pure ?_)))
  dsimp only
  simp only [newObj]
  exact wpAny_bind (wpAny_alloc (wpAny_pure h))
theorem iter_set {a : Addr} {led : Bool} {ep : Nat} {b : Bool} {Q : Value → Shared → Prop} (ho : s.heap.get? a = some (setOb led ep (some b)))
    (h : Q (.ref s.heap.objs.size) { s with heap := s.heap.push { cls := .type "set_iterator", dict := none, data := .fields #[rawInt 0, rawInt 0, .ref a, rawInt 1, rawInt ep], slots := #[] } }) : wpAny (model prog w) A (pyIter (.ref a)) Q E s := by
  have hT : s.TypeIs (.ref a) "set" := ⟨_, ho, rfl⟩
  refine wpAny_pyIter_slot hT MF.slot_set_iter (wpAny_call_entry MF.slot_set_iter hT MF.entry_set_iter ?_ (MF.args_set_iter_1 _))
  unfold Builtin.«frozenset.__iter__» Builtin.Frozenset.slot0
  refine wpAny_bind (wpAny_bind (slot_args0 (wpAny_pure ?_)))
  unfold Builtin.Frozenset.sizeOf
  refine wpAny_bind (wpAny_bind (wpAny_setEntries_of (es := #[(bh b, .bool b)]) (ep := ep) (t := setT b led) ho rfl (by cases b <;> rfl) (wpAny_pure ?_)))
  unfold setDrawn
  refine wpAny_bind (wpAny_bind (wpAny_setState_of (es := #[(bh b, .bool b)]) (ep := ep) (t := setT b led) ho rfl (by cases b <;> rfl) ?_))
  dsimp only
  unfold setsByText
  refine wpAny_bind (wpAny_bind (wpAny_askSetting (wpAny_pure ?_)))
  refine wpAny_bind (wpAny_pure ?_)
  have hd : (!(model prog w).w.params.followText "set-order" && ((!(setT b led).plain) && decide ((#[(bh b, Value.bool b)] : Array (Int × Value)).size > 1))) = false := by
    rw [show ((!(setT b led).plain) && decide ((#[(bh b, Value.bool b)] : Array (Int × Value)).size > 1)) = false from rfl, Bool.and_false]
  refine wpAny_pure ?_
  show wpAny _ _ (if (!(model prog w).w.params.followText "set-order" && ((!(setT b led).plain) && decide ((#[(bh b, Value.bool b)] : Array (Int × Value)).size > 1))) = true then _ else _) _ _ _
  rw [hd]
  simp only [Bool.false_eq_true, ↓reduceIte]
  refine wpAny_bind (wpAny_pure ?_)
  refine wpAny_bind (wpAny_setEpoch_of (es := #[(bh b, .bool b)]) (ep := ep) (t := setT b led) ho rfl (by cases b <;> rfl) ?_)
  refine wpAny_bind (m := newFields _ _) (wpAny_newObj_type ?_)
  exact wpAny_pure ⟨_, rfl, "set_iterator", _, ⟨_, Heap.get?_push_size _ rfl, rfl⟩, MF.slot_setit_next.lookup, h⟩
theorem pick1 {α : Type} (f : Nat → Nat) (x : α) : pickOrder f #[x] = #[x] := by
  unfold pickOrder
  show (match [x][f 0 % 1]? with
    | some y => pickOrder.go f 0 1 ([x].eraseIdx (f 0 % 1)) (#[].push y)
    | none => #[]) = _
  rw [Nat.mod_one]
  rfl
theorem setNext_eq {a : Addr} {led : Bool} {ep : Nat} {b : Bool} {sl gv : Nat} {Q : Option (Value × Nat) → Shared → Prop} (hl : led = !(w.params.followText "set-order")) (ho : s.heap.get? a = some (setOb led ep (some b)))
    (r : Option (Value × Nat)) (hr : (sl = 0 ∧ gv = 0 ∧ r = some (.bool b, (if w.params.followText "set-order" then 0 else (bh b).toNat + 1))) ∨ (gv = 1 ∧ r = none ∧ (w.params.followText "set-order" = false → sl = (bh b).toNat + 1))) (h : Q r s) :
    wpAny (model prog w) A (setNext a sl gv ep) Q E s := by
  unfold setNext
  refine wpAny_bind (wpAny_setState_of (es := #[(bh b, .bool b)]) (ep := ep) (t := setT b led) ho rfl (by cases b <;> rfl) ?_)
  dsimp only
  unfold setsByText
  refine wpAny_bind (wpAny_bind (wpAny_askSetting (wpAny_pure ?_)))
  show wpAny _ _ (if w.params.followText "set-order" = true then _ else _) _ _ _
  cases hby : w.params.followText "set-order" with
  | true =>
    rw [if_pos rfl]
    rw [show (ep != ep) = false from by simp]
    simp only [Bool.false_eq_true, ↓reduceIte]
    unfold setWalk
    refine wpAny_bind (wpAny_bind (wpAny_setState_of (es := #[(bh b, .bool b)]) (ep := ep) (t := setT b led) ho rfl (by cases b <;> rfl) ?_))
    dsimp only
    unfold setsByText
    refine wpAny_bind (wpAny_bind (wpAny_askSetting (wpAny_pure ?_)))
    show wpAny _ _ (if w.params.followText "set-order" = true then _ else _) _ _ _
    rw [hby, if_pos rfl]
    refine wpAny_bind (wpAny_askSetting ?_)
    refine wpAny_pure ?_
    rw [pick1]
    refine wpAny_pure ?_
    rcases hr with ⟨rfl, rfl, e⟩ | ⟨rfl, e, _⟩
    · rw [hby] at e; simp only [if_true] at e; subst e; exact h
    · subst e; exact h
  | false =>
    rw [if_neg (by decide)]
    rw [hby] at hl
    simp only [Bool.not_false] at hl
    subst hl
    show wpAny _ _ (if ((!(setT b true).plain) && decide ((#[(bh b, Value.bool b)] : Array (Int × Value)).size > 1)) = true then _ else _) _ _ _
    rw [show ((!(setT b true).plain) && decide ((#[(bh b, Value.bool b)] : Array (Int × Value)).size > 1)) = false from rfl]
    simp only [Bool.false_eq_true, ↓reduceIte]
    refine wpAny_bind ?_
    show wpAny _ _ (if (!true && !(#[(bh b, Value.bool b)] : Array (Int × Value)).isEmpty) = true then _ else _) _ _ _
    simp only [Bool.not_true, Bool.false_and, Bool.false_eq_true, ↓reduceIte]
    refine wpAny_pure ?_
    rcases hr with ⟨rfl, rfl, e⟩ | ⟨rfl, e, h2⟩
    · rw [hby] at e; simp only [Bool.false_eq_true, ↓reduceIte] at e; subst e
      cases b <;> exact wpAny_pure h
    · subst e
      rw [h2 hby]
      cases b <;> exact wpAny_pure h

theorem next_set1 {a it : Addr} {led : Bool} {ep : Nat} {b : Bool} {Q : Option Value → Shared → Prop} (hl : led = !(w.params.followText "set-order")) (ho : s.heap.get? a = some (setOb led ep (some b)))
    (hi : s.heap.get? it = some { cls := .type "set_iterator", dict := none, data := .fields #[rawInt 0, rawInt 0, .ref a, rawInt 1, rawInt ep], slots := #[] })
    (h : ∀ h' x, (w.params.followText "set-order" = false → x = (bh b).toNat + 1) → Heap.SameBut it s.heap h' → h'.get? it = some { cls := .type "set_iterator", dict := none, data := .fields #[rawInt (x : Nat), rawInt 1, .ref a, rawInt 1, rawInt ep], slots := #[] } → Q (some (.bool b)) { s with heap := h' }) :
    wpAny (model prog w) A (pyNext (.ref it)) Q E s := by
  have hT : s.TypeIs (.ref it) "set_iterator" := ⟨_, hi, rfl⟩
  unfold pyNext
  refine wpAny_bind (wpAny_attempt (wpAny_callSpecial?_slot (name := Str.ofString "__next__") hT MF.slot_setit_next
    (wpAny_call_entry MF.slot_setit_next hT MF.entry_setit_next ?_ (MF.args_setit_next_1 _))))
  show wpAny _ _ (slotArgs "__next__" 0 ⟨[.ref it], []⟩ >>= _) _ _ _
  refine wpAny_bind (slot_args0 ?_)
  refine wpAny_bind (wpAny_fieldsOf hi rfl ?_)
  dsimp only
  refine wpAny_bind (wpAny_setEntries_of (es := #[(bh b, .bool b)]) (ep := ep) (t := setT b led) ho rfl (by cases b <;> rfl) ?_)
  show wpAny _ _ (if (((1 : Nat) : Int) != 1) = true then _ else _) _ _ _
  rw [show (((1 : Nat) : Int) != 1) = false from rfl]
  simp only [Bool.false_eq_true, ↓reduceIte]
  show wpAny _ _ (setNext a 0 0 ep >>= _) _ _ _
  refine wpAny_bind (setNext_eq hl ho _ (.inl ⟨rfl, rfl, rfl⟩) ?_)
  dsimp only
  refine wpAny_bind (wpAny_setField_rec hi (by simp) fun h1 g1 s1 => ?_)
  refine wpAny_bind (wpAny_setField_rec (s := { s with heap := h1 }) g1 (by simp) fun h2 g2 s2 => ?_)
  refine wpAny_pure ⟨_, rfl, wpAny_pure (h h2 _ (fun e => ?_) (s1.trans s2) g2)⟩
  rw [e]; rfl
theorem next_set0 {a it : Addr} {led : Bool} {ep x : Nat} {b : Bool} {Q : Option Value → Shared → Prop} (hh : A.handled = none) (hl : led = !(w.params.followText "set-order")) (ho : s.heap.get? a = some (setOb led ep (some b)))
    (hx : w.params.followText "set-order" = false → x = (bh b).toNat + 1)
    (hi : s.heap.get? it = some { cls := .type "set_iterator", dict := none, data := .fields #[rawInt (x : Nat), rawInt 1, .ref a, rawInt 1, rawInt ep], slots := #[] })
    (hQ : ∀ h' ob, Heap.ExtBut it s.heap h' → h'.get? it = some ob → Q none { s with heap := h' }) :
    wpAny (model prog w) A (pyNext (.ref it)) Q E s := by
  have hT : s.TypeIs (.ref it) "set_iterator" := ⟨_, hi, rfl⟩
  unfold pyNext
  refine wpAny_bind (wpAny_attempt (wpAny_callSpecial?_slot (name := Str.ofString "__next__") hT MF.slot_setit_next
    (wpAny_call_entry MF.slot_setit_next hT MF.entry_setit_next ?_ (MF.args_setit_next_1 _))))
  show wpAny _ _ (slotArgs "__next__" 0 ⟨[.ref it], []⟩ >>= _) _ _ _
  refine wpAny_bind (slot_args0 ?_)
  refine wpAny_bind (wpAny_fieldsOf hi rfl ?_)
  dsimp only
  refine wpAny_bind (wpAny_setEntries_of (es := #[(bh b, .bool b)]) (ep := ep) (t := setT b led) ho rfl (by cases b <;> rfl) ?_)
  show wpAny _ _ (if (((1 : Nat) : Int) != 1) = true then _ else _) _ _ _
  rw [show (((1 : Nat) : Int) != 1) = false from rfl]
  simp only [Bool.false_eq_true, ↓reduceIte]
  show wpAny _ _ (setNext a x 1 ep >>= _) _ _ _
  refine wpAny_bind (setNext_eq hl ho none (.inr ⟨rfl, rfl, hx⟩) ?_)
  dsimp only
  refine wpAny_bind (wpAny_setField hi rfl (by simp) ?_)
  refine stop_raise (show A.in1.handled = none from hh) fun o1 o2 hoo hcc => ?_
  refine wpAny_bind (wpAny_isInstance (T := "StopIteration") (b := true) ⟨_, hoo, hcc⟩ isSubtype_stop ?_)
  exact wpAny_pure (hQ _ _ (((Heap.SameBut.update ..).extBut.push _).push _) (ext_get (b := 0) (d := 0) hi (Obj.isFreed_of_fields (Obj.data_mapFields rfl _))))
end
-- WE
theorem codeAny_compStart_set {prog : Program} {w : World} {A : Around} {R : Result → Shared → Prop} {s : Shared} {elt target iter : Expr} {scope : Scope} {pos : Pos} {it acc : Value} {env : Env}
    (h0 : codeAny (model prog w) A (.compLoop (.SetComp elt [⟨target, iter, [], 0⟩] scope pos) 0 it acc env) R s)
    (h : wpAny (model prog w) A (pyIter it) (fun it' s' => codeAny (model prog w) A (.compLoop (.SetComp elt [⟨target, iter, [], 0⟩] scope pos) 0 it' acc env) R s')
      (notedBy (model prog w) A env fun x s' => R (.error x) s') s) :
    codeAny (model prog w) A (.compStart (.SetComp elt [⟨target, iter, [], 0⟩] scope pos) 0 it acc env) R s := by
  refine codeAny_of_tree ?_
  show wpAny _ _ ((compStart (.SetComp elt [⟨target, iter, [], 0⟩] scope pos) 0 it acc env).onRaise (fun x => do noteFrame x env; standAt theWindowsPlace)) _ _ s
  refine wpAny_notedAt ?_
  unfold compStart
  show wpAny _ _ (ask >>= _) _ _ s
  refine wpAny_bind (wpAny_askSetting (wpAny_ite ?_))
  split
  · first
      | exact wpAny_bind (wpAny_pure (wpAny_pure (And.intro rfl h0)))
      | exact wpAny_pure (And.intro rfl h0)
  · first
      | exact wpAny_bind (wpAny_rule (wpAny_bind (wpAny_standAt (wpAny_bind (wpAny_mono h (fun it' s' h' => wpAny_pure (And.intro rfl h')) fun _ _ x => x)))))
      | (refine wpAny_bind (wpAny_rule ?_); show wpAny _ _ (standAt iter.pos >>= _) _ _ s; exact wpAny_bind (wpAny_standAt (wpAny_bind (wpAny_mono h (fun it' s' h' => wpAny_pure (And.intro rfl h')) fun _ _ x => x))))
section
variable {W : Wd} {c : Cx} {st : St}
/-- the same of a set comprehension that gives truth values -/
noncomputable def CompGoS (W : Wd) (c : Cx) (target elt : Expr) (scope : Scope) (fcl : List (Str × Nat)) (Q : AV → St → Prop) (it : AV) (st2 : St) : Prop :=
  ∃ kit, it = .obj kit ∧ ∀ c', Inl c c' scope (newCl scope.names (st2.os.length + 1) fcl) →
      ∃ (I : Nat → St → Prop) (n : Nat), It W c' ⟨[], st2.os ++ setO (!(W.w.params.followText "set-order")) none :: newCells scope.names, st2.gn⟩ (.obj kit) (fun it' st => it' = .obj kit ∧ I n st) ∧
       I n ⟨[], st2.os ++ setO (!(W.w.params.followText "set-order")) none :: newCells scope.names, st2.gn⟩ ∧
       ∀ n st, I n st → Nx W c' st (.obj kit) (fun o st3 => match o with
        | none => Q (.obj st2.os.length) ⟨st2.m, st3.os, st3.gn⟩
        | some v => Op1 W c' UR st3 v (assign target c'.env) (fun _ st4 => Ev W c' st4 (eval elt c'.env) (fun x st6 =>
            ∃ b o, x = .bool b ∧ st6.os[st2.os.length]? = some (setO (!(W.w.params.followText "set-order")) o) ∧ (o = none ∨ o = some b) ∧ ∃ m, m < n ∧ I m { st6 with os := st6.os.set st2.os.length (setO (!(W.w.params.followText "set-order")) (some b)) })))

theorem comp_coreS {elt target iter : Expr} {scope : Scope} {pos pos2 : Pos} {Q : AV → St → Prop} (fcl : List (Str × Nat)) {ρ : List Addr} {s : Shared} {E : Value → Shared → Prop} {use : Option (Value → Sem Unit)} {R : Value → Shared → Prop}
    (hs : ∀ x, foldedSetIterable iter c.env x = pure x) (ht : ∀ it v, letOwnedTupleGo target it v = pure ()) (hk : scope.kind = .function)
    (hnames : ∀ y ∈ scope.names, y.2 = .local → scope.names.lookup y.1 = some .local) (hfree : ∀ p ∈ scope.names, p.2 = .free → ∃ k, c.cl.lookup p.1 = some k)
    (hf : ∀ x k, fcl.lookup x = some k → (x, NameKind.free) ∈ scope.names ∧ c.cl.lookup x = some k)
    (fin : ∀ (ρ' : List Addr) (st' : St) (s' : Shared) (a : AV) (v : Value) (C : Addr) (M : Str → Option Value), Rp W c (ρ ++ ρ') st' s' → a.rel (ρ ++ ρ') v → Q a st' → s'.heap.Ns C M → C ≠ c.L → C ∉ ρ ++ ρ' → c.g.get? C = none →
      compPost W.M c.A E use R v C (.ok .next) s') (r : Rp W c ρ st s)
    (h : Ev W c st (eval iter c.env) (fun a st1 => It W c st1 a (CompGoS W c target elt scope fcl Q))) :
    wpAny W.M c.A (comprehension (.SetComp elt [⟨target, iter, [], 0⟩] scope pos) scope c.env pos2 (newSet (.type "set")) false (eval iter c.env) use) R E s := by
  have hclos : ∃ cl, closureFor scope c.env = pure cl ∧ ∀ p ∈ scope.names, p.2 = .free → cl.lookup p.1 = c.env.cells.lookup p.1 := closure_ok fun p hp e => by
    obtain ⟨k, hk⟩ := hfree p hp e
    obtain ⟨a, _, h2⟩ := r.cells _ _ hk
    exact ⟨a, h2⟩
  obtain ⟨cl, hcl, hlk⟩ := hclos
  refine wpAny_comprehension_free (use := use) rfl hs hcl hk hnames (wp_on h r fun ρ1 a st1 v s1 r1 ra h1 => wpAny_mono (h1 _ s1 E v r1 ra) (fun itv s2 p => ?_) fun _ _ x => x)
  obtain ⟨ρ2, ita, st2, r2, rit, kit, e, h2⟩ := p
  subst e
  refine new_set ?_
  have r3 := r2.alloc (o := setO (!(W.w.params.followText "set-order")) none) (ob := setOb (!(W.w.params.followText "set-order")) 0 none) ⟨0, rfl⟩ rfl
  have rit3 : AV.rel (ρ ++ ρ1 ++ ρ2 ++ [s2.heap.objs.size]) (.obj kit) itv := rit.mono
  have racc3 : AV.rel (ρ ++ ρ1 ++ ρ2 ++ [s2.heap.objs.size]) (.obj st2.os.length) (.ref s2.heap.objs.size) := ⟨_, by rw [← r2.objs.len]; simp, rfl⟩
  obtain ⟨σ, hσ⟩ : ∃ σ, ρ ++ ρ1 ++ ρ2 ++ [s2.heap.objs.size] = ρ ++ σ := ⟨ρ1 ++ ρ2 ++ [s2.heap.objs.size], by simp only [List.append_assoc]⟩
  rw [hσ] at r3 rit3 racc3
  refine wp_compEnv (fcl := fcl) r3 hk hlk hf fun c' s4 ρ4 hin hg ho hA r4 cenv hc hLc => ?_
  have el : ({ st2 with os := st2.os ++ [setO (!(W.w.params.followText "set-order")) none] } : St).os.length = st2.os.length + 1 := by simp
  rw [el] at hin
  have eo : st2.os ++ [setO (!(W.w.params.followText "set-order")) none] ++ newCells scope.names = st2.os ++ setO (!(W.w.params.followText "set-order")) none :: newCells scope.names := by simp
  have r4' : Rp W c' (ρ ++ σ ++ ρ4) ⟨[], st2.os ++ setO (!(W.w.params.followText "set-order")) none :: newCells scope.names, st2.gn⟩ s4 := by rw [← eo]; exact r4
  obtain ⟨I, n, h0, hI0, turn⟩ := h2 c' hin
  rw [hc, hLc, show c.A = c'.A from hA.symm]
  refine code_gen fun P hP => ?_
  have loop : ∀ s5 (n0 : Nat) ρ0 st0, Rp W c' (ρ ++ σ ++ ρ0) st0 s5 → I n0 st0 →
      codeAny W.M c'.A (.compLoop (.SetComp elt [⟨target, iter, [], 0⟩] scope pos) 0 itv (.ref s2.heap.objs.size) c'.env) P s5 := by
    intro s5 n0 ρ0 st0 r5 hI
    refine codeAny_compLoop_set (LoI W c' (ρ ++ σ) I) (fun n s' ⟨ρ', st', r', hI⟩ => ?_) n0 ⟨ρ0, st0, r5, hI⟩ (fun v => ht _ v)
    refine wpAny_mono (turn n st' hI _ s' _ itv r' rit3.mono) (fun o s6 p => ?_) fun _ _ x => x
    obtain ⟨ρ6, oa, st6, r6, ro, h6⟩ := p
    rw [List.append_assoc (ρ ++ σ)] at r6 ro
    generalize ρ' ++ ρ6 = ρ6 at r6 ro
    cases oa with
    | none =>
      cases ro
      obtain ⟨M, hM, _⟩ := r6.ns
      have rb := r3.leave r6 hg ho
      have ra2 : AV.rel (ρ ++ σ ++ ρ6) (.obj st2.os.length) (.ref s2.heap.objs.size) := racc3.mono
      have hsz : s2.heap.objs.size + 1 ≤ c'.L := by have := r6.above; rw [hg, hideAll_size, Heap.size_push] at this; exact this
      have hn : ∀ a, s2.heap.objs.size + 1 ≤ a → (s2.heap.push (setOb (!(W.w.params.followText "set-order")) 0 none)).get? a = none := fun a ha => Heap.get?_none_of_le (by rw [Heap.size_push]; exact ha)
      have k1 : c'.L ≠ c.L := by
        intro e
        obtain ⟨M0, hM0, _⟩ := r3.ns
        have h9 := hM0.lt
        rw [← e] at h9
        have h10 : c'.L < s2.heap.objs.size + 1 := by have := h9; rw [Heap.size_push] at this; exact this
        exact absurd h10 (Nat.not_lt.mpr hsz)
      have k2 : c'.L ∉ ρ ++ σ ++ ρ6 := fun hm => (r6.fresh _ hm).1 rfl
      have k3 : c.g.get? c'.L = none := by
        cases q : c.g.get? c'.L with
        | none => rfl
        | some o => have h11 := r3.keep _ _ q; rw [hn _ hsz] at h11; cases h11
      have eo2 : ∀ (s9 : Shared), s9 = { heap := s9.heap, gens := s9.gens, drawn := s9.drawn, toks := s9.toks, os := s9.os } := fun _ => rfl
      rw [List.append_assoc ρ] at rb ra2 k2
      have := fin (σ ++ ρ6) _ s6 (.obj st2.os.length) (.ref s2.heap.objs.size) c'.L M rb ra2 h6 hM k1 k2 k3
      refine hP _ _ ?_
      rw [hA]
      exact this
    | some va =>
      obtain ⟨u, e, ru⟩ := ro
      subst e
      refine wpAny_mono (h6 _ s6 _ u r6 ru) (fun _ s7 p => ?_) fun _ _ x => x
      obtain ⟨ρ7, _, st7, r7, _, h7⟩ := p
      rw [List.append_assoc (ρ ++ σ)] at r7
      generalize ρ6 ++ ρ7 = ρ7 at r7
      refine wp_on h7 r7 ?_
      rintro ρ8 x st8 xv s8 r8 rb ⟨b, o, e, hl, hb, m, hm, hI'⟩
      rw [List.append_assoc (ρ ++ σ)] at r8 rb
      generalize ρ7 ++ ρ8 = ρ8 at r8 rb
      subst e
      cases (show xv = .bool b from rb)
      have ra8 : AV.rel (ρ ++ σ ++ ρ8) (.obj st2.os.length) (.ref s2.heap.objs.size) := racc3.mono
      obtain ⟨aa, ob, e1, e2, e3, ep, e4⟩ := r8.at_ hl ra8
      cases e1; subst e4
      refine add_set e3 hb fun h' ep' hsb hg => ?_
      have r9 := r8.alter (n := s8.toks + 1) (o' := setO (!(W.w.params.followText "set-order")) (some b)) e2 hsb.extBut hg ⟨ep', rfl⟩
      exact ⟨m, hm, ρ8, _, r9, hI'⟩
  refine codeAny_compStart_set (loop s4 n ρ4 _ r4' hI0) ?_
  refine wpAny_mono (h0 _ s4 _ itv r4' rit3.mono) (fun it' s5 p => ?_) fun _ _ x => x
  obtain ⟨ρ5, ia, st5, r5, ri, e, hI⟩ := p
  subst e
  obtain ⟨a1, e1, e2⟩ := ri
  obtain ⟨a2, e3, e4⟩ := (AV.rel.mono (ρ' := ρ5) (rit3.mono (ρ' := ρ4)))
  rw [e1] at e3; cases e3
  rw [e2, ← e4]
  rw [List.append_assoc (ρ ++ σ)] at r5
  exact loop s5 n _ _ r5 hI
theorem ev_SetComp {elt target iter : Expr} {scope : Scope} {pos : Pos} {Q : AV → St → Prop} (fcl : List (Str × Nat))
    (hs : ∀ x, foldedSetIterable iter c.env x = pure x) (ht : ∀ it v, letOwnedTupleGo target it v = pure ()) (hk : scope.kind = .function) (hb : compOk scope.names c.cl fcl = true)
    (h : Ev W c st (eval iter c.env) (fun a st1 => It W c st1 a (CompGoS W c target elt scope fcl Q))) :
    Ev W c st (eval (.SetComp elt [⟨target, iter, [], 0⟩] scope pos) c.env) Q := fun ρ s E r => by
  simp only [compOk, Bool.and_eq_true, List.all_eq_true] at hb
  obtain ⟨⟨h1, h2⟩, h3⟩ := hb
  show wpAny _ _ (comprehension (.SetComp elt [⟨target, iter, [], 0⟩] scope pos) scope c.env _ (newSet (.type "set")) false (eval iter c.env) none) _ _ s
  refine comp_coreS fcl hs ht hk (fun y hy e => ?_) (fun p hp e => ?_) (fun x k e => ?_) (use := none) (fun ρ' st' s' a v C M rb ra hq hM k1 k2 k3 => ⟨M, hM, fun h' hs' => ⟨ρ', a, st', rb.side hs' k1 k2 k3, ra, hq⟩⟩) r h
  · have := h1 y hy; rw [e] at this; simpa using this
  · have := h2 p hp; rw [e] at this
    exact Option.isSome_iff_exists.mp (by simpa using this)
  · have := h3 _ (mem_of_lookup e)
    simp only [Bool.and_eq_true] at this
    exact ⟨by simpa using this.1, by simpa using this.2⟩
/-- the one item of a set of one -/
theorem ex_AssignSet1 {xa : Str} {pa tpos pos : Pos} {k : Nat} {value : Expr} {Q : AF → St → Prop} (hs : swapsWithSole [.Tuple [.Name xa pa] k tpos] value pos.line c.env = pure false) (hw : swappedStores [.Tuple [.Name xa pa] k tpos] value c.env = pure none)
    (ha : c.scope.names.lookup xa = some .local)
    (h : Ev W c st (eval value c.env) (fun a st1 => ∃ j b, a = .obj j ∧ st1.os[j]? = some (setO (!(W.w.params.followText "set-order")) (some b)) ∧ Q .next { st1 with m := putM xa (.bool b) st1.m })) :
    Ex W c st (exec (.Assign [.Tuple [.Name xa pa] k tpos] value pos) c.env) Q := fun ρ s E r => by
  refine Assign_Tuple (wp_on h r fun ρ1 a st1 v s1 r1 ra ⟨j, b, e, hj, hq⟩ => ?_) hs hw
  subst e
  obtain ⟨ta, ob, e1, h1, h2, ep, e4⟩ := r1.at_ hj ra
  subst e1; subst e4
  show wpAny _ c.A (standAt tpos >>= fun _ => unpack (.ref ta) (assignEach [.Name xa pa] c.env)) _ _ _
  refine wpAny_bind (wpAny_standAt ?_)
  unfold unpack
  refine wpAny_bind (wpAny_holding ?_)
  show wpAny _ c.A (unpackItems (.ref ta) 1 none) _ _ _
  unfold unpackItems
  have hT : s1.TypeIs (.ref ta) "set" := ⟨_, h2, rfl⟩
  refine wpAny_bind ?_
  unfold notIterableAtAll
  refine wpAny_bind (wpAny_specialOf hT MF.slot_set_iter.lookup ?_)
  refine wpAny_pure ?_
  simp only [Bool.false_eq_true, if_false]
  refine wpAny_bind (wpAny_holding (iter_set h2 ?_))
  refine wpAny_bind (wpAny_holding ?_)
  unfold draw
  have hne : ta ≠ s1.heap.objs.size := Nat.ne_of_lt (Heap.lt_size h2)
  refine wpAny_bind (next_set1 (b := b) rfl (Heap.get?_push_of_some _ h2) (Heap.get?_push_size _ rfl) fun h' x hx hsb hg => ?_)
  dsimp only
  refine wpAny_bind (wpAny_holding ?_)
  unfold draw
  refine wpAny_pure (wpAny_pure ?_)
  rw [if_neg (by simp)]
  refine wpAny_bind (wpAny_holding (next_set0 (b := b) r1.ok.hd rfl ((hsb.2 _ hne).trans (Heap.get?_push_of_some _ h2)) hx hg fun h3 o3 he3 hg3 => ?_))
  simp only [Option.isSome_none, Bool.false_eq_true, if_false]
  refine wpAny_pure ?_
  have r2 : Rp W c (ρ ++ ρ1) st1 { s1 with heap := h3 } := r1.grow (n := s1.toks) fun b o e => he3 b o (Nat.ne_of_lt (Heap.lt_size e)) ((hsb.2 b (Nat.ne_of_lt (Heap.lt_size e))).trans (Heap.get?_push_of_some _ e))
  show wpAny _ c.A (do holding [] (assign (.Name xa pa) c.env (.bool b)); pure ()) _ _ _
  refine wpAny_bind (wpAny_holding (wpAny_assign_Name (wp_storeLocal r2 (a := .bool b) rfl ha fun s4 r4 => wpAny_pure ?_)))
  exact ⟨ρ1, .next, _, r4, rfl, hq⟩
end
-- WF
inductive CtI (st1 : St) (x : Str) (itS : Nat → AO) (l : List AV) (so : Option Bool → AO) (b : Bool) (n : Nat) (st : St) : Prop
  | mk (i : Nat) (h1 : n + i = l.length + 1) (h2 : i ≤ l.length) (h3 : st.gn = st1.gn) (h4 : st.m = [] ∨ ∃ b, st.m = [(x, b)]) (h5 : Ext st1.os st.os) (h6 : st.os[st1.os.length]? = some (itS i)) (h7 : st.os[st1.os.length + 1]? = some (so (if i = 0 then none else some b)))
theorem comp_srcS {W : Wd} {c : Cx} {st1 : St} {x : Str} {px : Pos} {elt : Expr} {scope : Scope} {Q : AV → St → Prop} (fcl : List (Str × Nat)) {v : AV} {itS : Nat → AO} {l : List AV} (b : Bool)
    (hc : ∀ y ∈ scope.names, y.2 ≠ .cell) (hx : (relabel scope c.env).names.lookup x = some .local) (hne : l ≠ [])
    (hit : ∀ Q : AV → St → Prop, Q (.obj st1.os.length) { st1 with os := st1.os ++ [itS 0] } → It W c st1 v Q) (src : Source W st1.os st1.os.length itS l)
    (turn : ∀ (c' : Cx) (os : List AO) (i : Nat) (a : AV), Inl c c' scope fcl → l[i]? = some a → Ext st1.os os → st1.os.length + 2 ≤ os.length →
      Ev W c' ⟨[(x, a)], os, st1.gn⟩ (eval elt c'.env) (fun y st6 => y = .bool b ∧ st6.m = [(x, a)] ∧ st6.gn = st1.gn ∧ Ext os st6.os))
    (hQ : ∀ (os' : List AO), Ext st1.os os' → os'[st1.os.length + 1]? = some (setO (!(W.w.params.followText "set-order")) (some b)) → Q (.obj (st1.os.length + 1)) { st1 with os := os' }) :
    It W c st1 v (CompGoS W c (.Name x px) elt scope fcl Q) := by
  refine hit _ ⟨st1.os.length, rfl, fun c' hin => ?_⟩
  rw [newCl_none hc] at hin
  rw [newCells_none hc]
  have el : (st1.os ++ [itS 0]).length = st1.os.length + 1 := by simp
  generalize hso : setO (!(W.w.params.followText "set-order")) = so at *
  have e0 : st1.os ++ [itS 0] ++ [so none] = st1.os ++ [itS 0, so none] := by simp
  have hI0 : CtI st1 x itS l so b (l.length + 1) ⟨[], st1.os ++ [itS 0] ++ [so none], st1.gn⟩ := by
    refine ⟨0, rfl, Nat.zero_le _, rfl, .inl rfl, ?_, ?_, ?_⟩
    · rw [e0]; exact Ext.app _ _
    · show (st1.os ++ [itS 0] ++ [so none])[_]? = _
      rw [e0, List.getElem?_append_right (Nat.le_refl _)]; simp
    · show (st1.os ++ [itS 0] ++ [so none])[_]? = _
      rw [e0, List.getElem?_append_right (by lsm_bools)]; simp
  refine ⟨CtI st1 x itS l so b, l.length + 1, src.two c' _ _ ?_ ⟨rfl, hI0⟩, hI0, fun n st hI => ?_⟩
  · show (st1.os ++ [itS 0] ++ [so none])[_]? = _
    rw [e0, List.getElem?_append_right (Nat.le_refl _)]; simp
  · obtain ⟨i, hn, hil, hgn, hm, hext, hit, hacc⟩ := hI
    obtain ⟨m, os, gn⟩ := st
    have hlen : st1.os.length + 2 ≤ os.length := by have := (List.getElem?_eq_some_iff.mp hacc).1; simp only at this; lsm_bools
    simp only at hgn hm hext hit hacc
    subst hgn
    refine src.nx c' _ i _ hit hext (fun a ha => ?_) (fun hnone o => ?_) hil
    · have hlt : i < l.length := (List.getElem?_eq_some_iff.mp ha).1
      have hm2 : putM x a m = [(x, a)] := by
        rcases hm with rfl | ⟨b, rfl⟩
        · rfl
        · simp [putM]
      have hext1 : Ext st1.os (os.set st1.os.length (itS (i + 1))) := hext.set (Nat.le_refl _)
      refine as_Name (by rw [hin.scope]; exact hx) ?_
      show Ev W c' ⟨putM x a m, os.set st1.os.length (itS (i + 1)), st1.gn⟩ _ _
      rw [hm2]
      refine EvK.mono (turn c' _ i a hin ha hext1 (by simpa using hlen)) ?_
      rintro y st6 ⟨hy, hm6, hg6, he6⟩
      have hacc1 : (os.set st1.os.length (itS (i + 1)))[st1.os.length + 1]? = some (so (if i = 0 then none else some b)) := by rw [List.getElem?_set_ne (by lsm_bools)]; exact hacc
      have hacc6 := he6 _ _ hacc1
      refine ⟨b, _, hy, by rw [el]; exact hacc6, ?_, n - 1, by lsm_bools, i + 1, by lsm_bools, by lsm_bools, hg6, .inr ⟨a, hm6⟩, ?_, ?_, ?_⟩
      · by_cases h : i = 0 <;> simp [h]
      · rw [el]; exact (hext1.trans he6).set (by lsm_bools)
      · show (st6.os.set _ _)[_]? = _
        rw [el, List.getElem?_set_ne (by lsm_bools)]
        exact he6 _ _ (List.getElem?_set_self (by lsm_bools))
      · show (st6.os.set _ _)[_]? = _
        rw [el, if_neg (by lsm_bools)]
        exact List.getElem?_set_self (List.getElem?_eq_some_iff.mp hacc6).1
    · have hi : i = l.length := by have : l.length ≤ i := by simpa using hnone
                                   lsm_bools
      have hpos : 0 < l.length := List.length_pos_iff.mpr hne
      show Q (.obj (st1.os ++ [itS 0]).length) _
      rw [el]
      refine hQ _ (hext.set (Nat.le_refl _)) ?_
      rw [List.getElem?_set_ne (by lsm_bools), hacc, if_neg (by lsm_bools)]
-- HM
theorem cps_tri {x y : Str} (h1 : ¬ x.cps.toList < y.cps.toList) (h2 : ¬ y.cps.toList < x.cps.toList) : x = y := by
  have : x.cps.toList = y.cps.toList := List.le_antisymm (by simpa using h2) (by simpa using h1)
  cases x; cases y
  simp only [Str.mk.injEq]
  exact Array.toList_inj.mp this
theorem cps_irr {x : Str} : ¬ x.cps.toList < x.cps.toList := List.lt_irrefl _
theorem cps_trans {x y z : Str} (h1 : x.cps.toList < y.cps.toList) (h2 : y.cps.toList < z.cps.toList) : x.cps.toList < z.cps.toList := List.lt_trans h1 h2
theorem gtS_eq : ∀ a b : List Str, gtS a b = ltS b a
  | [], [] => rfl
  | [], _ :: _ => rfl
  | _ :: _, [] => rfl
  | x :: xs, y :: ys => by
    simp only [gtS, ltS]
    by_cases h : x = y
    · subst h; simp only [if_true]; exact gtS_eq xs ys
    · rw [if_neg h, if_neg (fun e => h e.symm)]
theorem ltS_irr : ∀ a : List Str, ltS a a = false
  | [] => rfl
  | x :: xs => by simp only [ltS, if_true]; exact ltS_irr xs
theorem ltS_trans : ∀ a b d : List Str, ltS a b = true → ltS b d = true → ltS a d = true
  | [], [], _, h, _ => by cases h
  | [], _ :: _, [], _, h => by cases h
  | [], _ :: _, _ :: _, _, _ => rfl
  | _ :: _, [], _, h, _ => by cases h
  | _ :: _, _ :: _, [], _, h => by cases h
  | x :: xs, y :: ys, z :: zs, h1, h2 => by
    simp only [ltS] at h1 h2 ⊢
    by_cases e1 : x = y
    · subst e1
      simp only [if_true] at h1
      by_cases e2 : x = z
      · subst e2
        simp only [if_true] at h2 ⊢
        exact ltS_trans xs ys zs h1 h2
      · rw [if_neg e2] at h2 ⊢; exact h2
    · rw [if_neg e1] at h1
      by_cases e2 : y = z
      · subst e2
        rw [if_neg e1]; exact h1
      · rw [if_neg e2] at h2
        have h3 := cps_trans (of_decide_eq_true h1) (of_decide_eq_true h2)
        by_cases e3 : x = z
        · subst e3; exact absurd h3 cps_irr
        · rw [if_neg e3]; exact decide_eq_true h3
theorem argBest_le (bt : Nat → Nat → Bool) : ∀ k, argBest bt k ≤ k
  | 0 => Nat.le_refl _
  | k + 1 => by
    simp only [argBest]
    split
    · exact Nat.le_refl _
    · exact Nat.le_trans (argBest_le bt k) (Nat.le_succ _)
theorem argBest_min (bt : Nat → Nat → Bool) (ht : ∀ i j k, bt i j = true → bt j k = true → bt i k = true) (hi : ∀ i, bt i i = false) : ∀ k i, i ≤ k → bt i (argBest bt k) = false
  | 0, i, h => by
    have : i = 0 := by lsm_bools
    subst this; exact hi 0
  | k + 1, i, h => by
    simp only [argBest]
    split
    · rename_i hb
      by_cases e : i = k + 1
      · subst e; exact hi _
      · cases q : bt i (k + 1) with
        | false => rfl
        | true =>
          have := argBest_min bt ht hi k i (by lsm_bools)
          rw [ht _ _ _ q hb] at this; cases this
    · rename_i hb
      by_cases e : i = k + 1
      · subst e; simpa using hb
      · exact argBest_min bt ht hi k i (by lsm_bools)
theorem between : ∀ (p m M x : List Str), p <+: m → p <+: M → ltS x m = false → ltS M x = false → p <+: x
  | [], _, _, _, _, _, _, _ => List.nil_prefix
  | a :: p, m, M, x, hm, hM, h1, h2 => by
    obtain ⟨m', rfl⟩ : ∃ m', m = a :: m' := by obtain ⟨t, e⟩ := hm; exact ⟨p ++ t, e.symm⟩
    obtain ⟨M', rfl⟩ : ∃ M', M = a :: M' := by obtain ⟨t, e⟩ := hM; exact ⟨p ++ t, e.symm⟩
    cases x with
    | nil => cases h1
    | cons b x =>
      simp only [ltS] at h1 h2
      by_cases e : b = a
      · subst e
        simp only [if_true] at h1 h2
        rw [List.cons_prefix_cons] at hm hM ⊢
        exact ⟨rfl, between p m' M' x hm.2 hM.2 h1 h2⟩
      · rw [if_neg e] at h1
        rw [if_neg (fun q => e q.symm)] at h2
        exact absurd (cps_tri (of_decide_eq_false h1) (of_decide_eq_false h2)) e
theorem lcp_minmax {rs : List (List Str)} {m M : List Str} (hm : m ∈ rs) (hM : M ∈ rs) (h1 : ∀ x ∈ rs, ltS x m = false) (h2 : ∀ x ∈ rs, ltS M x = false) : lcpG m M = lcpA rs := by
  apply pre_ext
  intro p
  rw [pre_lcp, pre_lcpA p rs (List.ne_nil_of_mem hm)]
  constructor
  · rintro ⟨a, b⟩ x hx
    exact between p m M x a b (h1 x hx) (h2 x hx)
  · intro h; exact ⟨h m hm, h M hM⟩
theorem getD_mem {α : Type} {l : List α} {i : Nat} {d : α} (h : i < l.length) : l.getD i d ∈ l := by
  simp only [List.getD_eq_getElem?_getD, List.getElem?_eq_getElem h, Option.getD_some]; exact List.getElem_mem h
theorem min_row {rs : List (List Str)} (h0 : rs ≠ []) : rs.getD (argBest (fun i j => ltS (rs.getD i []) (rs.getD j [])) (rs.length - 1)) [] ∈ rs ∧
    ∀ x ∈ rs, ltS x (rs.getD (argBest (fun i j => ltS (rs.getD i []) (rs.getD j [])) (rs.length - 1)) []) = false := by
  have hl : 0 < rs.length := List.length_pos_iff.mpr h0
  have := argBest_le (fun i j => ltS (rs.getD i []) (rs.getD j [])) (rs.length - 1)
  refine ⟨getD_mem (by lsm_bools), fun x hx => ?_⟩
  obtain ⟨i, hi, e⟩ := List.getElem_of_mem hx
  have := argBest_min (fun i j => ltS (rs.getD i []) (rs.getD j [])) (fun i j k => ltS_trans _ _ _) (fun i => ltS_irr _) (rs.length - 1) i (by lsm_bools)
  have e2 : rs.getD i [] = x := by simp [List.getD_eq_getElem?_getD, List.getElem?_eq_getElem hi, e]
  rw [e2] at this; exact this
theorem max_row {rs : List (List Str)} (h0 : rs ≠ []) : rs.getD (argBest (fun i j => gtS (rs.getD i []) (rs.getD j [])) (rs.length - 1)) [] ∈ rs ∧
    ∀ x ∈ rs, ltS (rs.getD (argBest (fun i j => gtS (rs.getD i []) (rs.getD j [])) (rs.length - 1)) []) x = false := by
  have hl : 0 < rs.length := List.length_pos_iff.mpr h0
  have := argBest_le (fun i j => gtS (rs.getD i []) (rs.getD j [])) (rs.length - 1)
  refine ⟨getD_mem (by lsm_bools), fun x hx => ?_⟩
  obtain ⟨i, hi, e⟩ := List.getElem_of_mem hx
  have := argBest_min (fun i j => gtS (rs.getD i []) (rs.getD j [])) (fun i j k h1 h2 => by simp only [gtS_eq] at *; exact ltS_trans _ _ _ h2 h1) (fun i => by rw [gtS_eq]; exact ltS_irr _) (rs.length - 1) i (by lsm_bools)
  have e2 : rs.getD i [] = x := by simp [List.getD_eq_getElem?_getD, List.getElem?_eq_getElem hi, e]
  rw [e2, gtS_eq] at this; exact this
/-- the two rows that min and max give -/
theorem lcp_best {rs : List (List Str)} {m M : List Str} (h0 : rs ≠ []) (hm : rs[argBest (fun i j => ltS (rs.getD i []) (rs.getD j [])) (rs.length - 1)]? = some m) (hM : rs[argBest (fun i j => gtS (rs.getD i []) (rs.getD j [])) (rs.length - 1)]? = some M) :
    lcpG m M = lcpA rs ∧ ltS M m = false := by
  obtain ⟨a1, a2⟩ := min_row h0
  obtain ⟨b1, b2⟩ := max_row h0
  have e1 : rs.getD (argBest (fun i j => ltS (rs.getD i []) (rs.getD j [])) (rs.length - 1)) [] = m := by rw [List.getD_eq_getElem?_getD, hm]; rfl
  have e2 : rs.getD (argBest (fun i j => gtS (rs.getD i []) (rs.getD j [])) (rs.length - 1)) [] = M := by rw [List.getD_eq_getElem?_getD, hM]; rfl
  rw [e1] at a1 a2
  rw [e2] at b1 b2
  exact ⟨lcp_minmax a1 b1 a2 b2, a2 M b1⟩
/-- the walk of both -/
theorem lcpG_at {m M : List Str} (h : ltS M m = false) : ∀ {i : Nat} {x : Str}, i ≤ (lcpG m M).length → m[i]? = some x → ∃ y, M[i]? = some y ∧ (x = y ↔ i < (lcpG m M).length) ∧ (x ≠ y → lcpG m M = m.take i) := by
  induction m generalizing M with
  | nil => intro i x _ e; simp at e
  | cons a m ih =>
    cases M with
    | nil => simp [ltS] at h
    | cons b M =>
      intro i x hi e
      by_cases q : a = b
      · subst q
        simp only [ltS, if_true] at h
        simp only [lcpG, if_true] at hi ⊢
        cases i with
        | zero => simp at e; subst e; exact ⟨a, rfl, by simp, by simp⟩
        | succ i =>
          simp at e
          obtain ⟨y, h1, h2, h3⟩ := ih h (i := i) (x := x) (by simp at hi; exact hi) e
          exact ⟨y, by simpa using h1, by rw [h2]; simp, fun hn => by rw [h3 hn]; rfl⟩
      · simp only [lcpG, if_neg q] at hi ⊢
        have : i = 0 := by simpa using hi
        subst this
        simp at e; subst e
        exact ⟨b, rfl, by simp [q], fun _ => by simp⟩
theorem lcpG_all {m M : List Str} (h : (lcpG m M).length = m.length) : lcpG m M = m := by
  have : lcpG m M <+: m := ((pre_lcp _ m M).mp (List.prefix_refl _)).1
  exact this.eq_of_length h
-- EC
noncomputable def okP (x : Str) : Prop := okS x ∧ x.length ≤ 90 ∧ (decide (0 + (Str.ofString "/").length ≤ x.length) && Builtin.Str.subAt x (Str.ofString "/") 0) = true ∧ ∀ y ∈ namesOf x, y ≠ Str.ofString "."
theorem names_dot {x : Str} (h : ∀ y ∈ namesOf x, y ≠ Str.ofString ".") : (Txt.split x (Str.ofString "/")).filter (fun y => !decide (y = Str.ofString "") && !decide (y = Str.ofString ".")) = namesOf x := by
  unfold namesOf
  apply List.filter_congr
  intro y hy
  by_cases e : y = Str.ofString ""
  · simp [e]
  · have : y ∈ namesOf x := by unfold namesOf; rw [List.mem_filter]; exact ⟨hy, by simp [e]⟩
    simp [e, h y this]
theorem RowsAt.ofPr2 {os6 os7 : List AO} {n : Nat} {P : Str → Prop} {xs : List Str} {ys zs : List AV} (h : RowsAt os6 ys (xs.map fun x => Txt.split x (Str.ofString "/")))
    (p : Pr (fun a y => ∃ j x j', a = .obj j ∧ P x ∧ os6[j]? = some (.list ((Txt.split x (Str.ofString "/")).map AV.str)) ∧ y = .obj j' ∧ n < j' ∧ os7[j']? = some (.list ((namesOf x).map AV.str))) ys zs) : RowsAt os7 zs (xs.map namesOf) := by
  induction p generalizing xs with
  | nil => rw [List.map_eq_nil_iff.mp (show xs.map _ = [] from h)]; rfl
  | cons hf _ ih =>
    obtain ⟨j, r, rs, e1, e2, e3, e4⟩ := h
    obtain ⟨x, xs', rfl, rfl, rfl⟩ := List.map_eq_cons_iff.mp e2
    obtain ⟨j2, x2, j3, q1, q2, q3, q4, q5, q6⟩ := hf
    rw [e1] at q1; cases q1
    rw [e3] at q3
    have := map_str_inj (AO.list.inj (Option.some.inj q3))
    refine ⟨j3, _, _, q4, rfl, ?_, ih e4⟩
    rw [q6]
    unfold namesOf
    rw [this]
inductive CpE (st : St) (rows : List (List Str)) (st5 : St) : Prop
  | mk (h1 : st5.gn = st.gn) (h2 : Ext st.os st5.os) (h3 : st5.m.lookup (Str.ofString "isabs") = some (.bool true)) (h4 : st5.os[st.os.length]? = some (.cell (some (.str (Str.ofString "/"))))) (h5 : ∃ jc, st5.m.lookup (Str.ofString "common") = some (.obj jc) ∧ st5.os[jc]? = some (.list ((lcpA rows).map AV.str)))
inductive CpI (st : St) (os7 : List AO) (j1 j2 : Nat) (r1 r2 : List Str) (i : Nat) (st5 : St) : Prop
  | mk (h1 : i ≤ (lcpG r1 r2).length) (h2 : st5.gn = st.gn) (h3 : Ext os7 st5.os) (h4 : st5.m.lookup (Str.ofString "isabs") = some (.bool true)) (h5 : st5.m.lookup (Str.ofString "common") = some (.obj j1)) (h6 : st5.m.lookup (Str.ofString "s1") = some (.obj j1)) (h7 : st5.m.lookup (Str.ofString "s2") = some (.obj j2)) (h8 : st5.os[os7.length + 1]? = some (enO os7.length i)) (h9 : st5.os[os7.length]? = some (itO "list_iterator" j1 i))
theorem spec_commonpath {w : World} {c : Cx} {st : St} {k : Nat} {xs : List Str} {Q : AV → St → Prop} (hr : 8 ≤ c.room) (hk : st.os[k]? = some (.list (xs.map AV.str))) (hx : ∀ x ∈ xs, okP x) (hz : xs.length ≤ 10) (h0 : xs ≠ [])
    (h : ∀ (os' : List AO), Ext st.os os' → Q (.str (Str.ofString "/" ++ Str.join (Str.ofString "/") (lcpA (xs.map namesOf)))) { st with os := os' }) : CallV (WW w) c st (.ref 129) [.obj k] Q := by
  (refine' call_posC (m0 := [(Str.ofString "paths", .obj k)]) ?ho ?hcd ?room ?hb ?hm ?hloc ?c1 ?c2 ?c3 ?_; (case ho => (((try dsimp only [WW]); k_is))); (case hcd => (((try dsimp only [WW]); k_is))); (case c1 => exact rfl); (case c2 => exact rfl); (case c3 => exact rfl); (case hm => (simp only [List.map_cons, List.map_nil]; decide)); (case hloc => (simp only [List.map_cons, List.map_nil]; decide)); (case room => lsm_bools); (case hb => first | (refine hb1 ?_; intro a; kernel_rfl) | (refine hb2 ?_; intro a b; kernel_rfl) | (refine hb3 ?_; intro a b d; kernel_rfl)))
  intro c' hs hcl hrm
  have hcl : c'.cl = [(Str.ofString "curdir", st.os.length + 1), (Str.ofString "sep", st.os.length)] := hcl
  generalize ho0 : st.os ++ newCells _ = os0
  have ho0 : os0 = st.os ++ [.cell none, .cell none] := ho0.symm
  have hl0 : os0.length = st.os.length + 2 := by rw [ho0]; simp
  have he0 : Ext st.os os0 := by rw [ho0]; exact Ext.app _ _
  have hc0 : os0[st.os.length]? = some (.cell none) := by rw [ho0]; simp
  have hd0 : os0[st.os.length + 1]? = some (.cell none) := by rw [ho0]; simp
  have hk0 := he0 _ _ hk
  repeat' (first | tb_start | with_reducible first | refine ex_cons ?_ | refine ex_If ?_)
  refine call_map2 hk0 ?_
  dsimp only
  repeat' (first | tb_start | with_reducible first | refine ex_cons ?_ | refine ex_If ?_)
  have he1 : Ext os0 (os0 ++ [itO "list_iterator" k 0, .tup [.obj os0.length], mapO (os0.length + 1) (.ref 117)]) := Ext.app _ _
  have q1 : (os0 ++ [itO "list_iterator" k 0, .tup [.obj os0.length], mapO (os0.length + 1) (.ref 117)])[os0.length]? = some (itO "list_iterator" k 0) := by simp
  have q2 : (os0 ++ [itO "list_iterator" k 0, .tup [.obj os0.length], mapO (os0.length + 1) (.ref 117)])[os0.length + 1]? = some (.tup [.obj os0.length]) := by simp
  have q3 : (os0 ++ [itO "list_iterator" k 0, .tup [.obj os0.length], mapO (os0.length + 1) (.ref 117)])[os0.length + 2]? = some (mapO (os0.length + 1) (.ref 117)) := by simp
  have hkl : k < os0.length := (List.getElem?_eq_some_iff.mp hk0).1
  have hl1 : (os0 ++ [itO "list_iterator" k 0, .tup [.obj os0.length], mapO (os0.length + 1) (.ref 117)]).length = os0.length + 3 := by simp
  generalize os0 ++ [itO "list_iterator" k 0, .tup [.obj os0.length], mapO (os0.length + 1) (.ref 117)] = os1 at *
  refine call_tuple_map (by lsm_bools) q3 q2 q1 (he1 _ _ hk0) (by rw [List.length_map]; lsm_bools) (by lsm_bools) (by lsm_bools) (by lsm_bools) (fun c2 st2 a Q' hr2 ha hq => ?_) fun os2 j hos2 hj hj2 => ?_
  · obtain ⟨x, _, rfl⟩ := List.mem_map.mp ha
    exact spec_fspath (by lsm_bools) hq
  dsimp only at hos2 hj
  have hc2 : os2[st.os.length]? = some (.cell none) := hos2 _ _ (by lsm_bools) (he1 _ _ hc0)
  have hd2 : os2[st.os.length + 1]? = some (.cell none) := hos2 _ _ (by lsm_bools) (he1 _ _ hd0)
  have he2 : Ext st.os os2 := fun i o e => hos2 _ _ (by have := (List.getElem?_eq_some_iff.mp e).1; lsm_bools) (he1 _ _ (he0 _ _ e))
  dsimp only
  have hjl : st.os.length + 1 < j := by lsm_bools
  clear hos2 hj q1 q2 q3 hl1 he1 hc0 hd0 hk0 hkl ho0 he0
  repeat' tb_start
  refine ex_cons (ex_If (tt_Not (tt_plain rfl ?_)))
  repeat' tb_start
  refine tr_tup hj2 (by rw [List.length_map]; lsm_bools) ?_
  have hne : (List.map AV.str xs).isEmpty = false := by cases xs with | nil => exact absurd rfl h0 | cons a b => rfl
  rw [hne]
  refine br_ff ?_
  repeat' (first | tb_start | with_reducible first | refine ex_cons ?_ | refine ex_If ?_)
  refine tt_plain rfl ?_
  repeat' (first | tb_start | with_reducible first | refine ex_cons ?_ | refine ex_If ?_)
  obtain ⟨x0, rest, hxs⟩ : ∃ a b, xs = a :: b := by
    cases xs with
    | nil => exact absurd rfl h0
    | cons a b => exact ⟨a, b, rfl⟩
  refine sub_tup (a := .str x0) hj2 (fun _ _ => rfl) (by decide) (by decide) (by rw [hxs]; rfl) ?_
  repeat' (first | tb_start | with_reducible first | refine ex_cons ?_ | refine ex_If ?_)
  refine call_isiSB ?_
  repeat' (first | tb_start | with_reducible first | refine ex_cons ?_ | refine ex_If ?_)
  refine ex_AssignC rfl (by rw [hs]; rfl) (by rw [hcl]; rfl) ?_
  refine ev_str ⟨⟨_, hc2⟩, seq_next ?_⟩
  dsimp only
  have hc3 := set_get (o' := .cell (some (.str (Str.ofString "/")))) hc2
  have hd3 := set_get_ne (o' := .cell (some (.str (Str.ofString "/")))) hd2 (show st.os.length ≠ st.os.length + 1 by lsm_bools)
  have hj3 := set_get_ne (o' := .cell (some (.str (Str.ofString "/")))) hj2 (show st.os.length ≠ j by lsm_bools)
  have he3 : Ext st.os (os2.set st.os.length (.cell (some (.str (Str.ofString "/"))))) := he2.set (Nat.le_refl _)
  generalize os2.set st.os.length (.cell (some (.str (Str.ofString "/")))) = os3 at *
  repeat' (first | tb_start | with_reducible first | refine ex_cons ?_ | refine ex_If ?_)
  refine ex_AssignC rfl (by rw [hs]; rfl) (by rw [hcl]; rfl) ?_
  refine ev_str ⟨⟨_, hd3⟩, seq_next ?_⟩
  dsimp only
  have hc4 := set_get_ne (o' := .cell (some (.str (Str.ofString ".")))) hc3 (show st.os.length + 1 ≠ st.os.length by lsm_bools)
  have hd4 := set_get (o' := .cell (some (.str (Str.ofString ".")))) hd3
  have hj4 := set_get_ne (o' := .cell (some (.str (Str.ofString ".")))) hj3 (show st.os.length + 1 ≠ j by lsm_bools)
  have he4 : Ext st.os (os3.set (st.os.length + 1) (.cell (some (.str (Str.ofString "."))))) := he3.set (by lsm_bools)
  generalize os3.set (st.os.length + 1) (.cell (some (.str (Str.ofString ".")))) = os4 at *
  clear hc2 hd2 hj2 he2 hc3 hd3 hj3 he3
  repeat' (first | tb_start | with_reducible first | refine ex_cons ?_ | refine ex_If ?_)
  refine ex_Try ?_
  refine ex_cons ?_
  refine ex_ALC [(Str.ofString "sep", st.os.length)] (swaps_LC hs rfl (by decide)) (by rw [hs]; rfl) (fun _ => rfl) (fun _ _ => rfl) rfl (by rw [hcl]; exact compOk1 rfl rfl rfl rfl) ?_
  repeat' tb_start
  refine' comp_src [(Str.ofString "sep", st.os.length)] (fun _ => true) (fun os a y => ∃ x j', a = .str x ∧ y = .obj j' ∧ os4.length + 1 < j' ∧ os[j']? = some (.list ((Txt.split x (Str.ofString "/")).map AV.str))) ?hc ?hx ?hz ?hit ?src ?hF ?turn ?fin
  case hit => exact fun Q h => it_tup hj4 h
  case src => exact src_tup hj4
  case hc => decide
  case hx => exact lookup_relabel_local rfl
  case hz => rw [List.length_map]; lsm_bools
  case hF => rintro os os' a y hh ⟨x, j, e1, e2, e3, e4⟩; exact ⟨x, j, e1, e2, e3, hh _ _ e3 e4⟩
  case turn =>
    intro c2 os i a hin ha he hl
    obtain ⟨y, hy, rfl⟩ := strs_get ha
    have hsc := hin.sc hs
    have hcl2 := hin.cl
    have hc5 := he _ _ hc4
    refine tsts_nil ⟨rfl, rfl, rfl, Ext.refl _, fun _ => ?_⟩
    repeat' tb_start
    refine getM_str PySem.F.slot_str_split PySem.F.type_str_split ?_
    repeat' tb_start
    refine call_split (by have := (hx y hy).1.2; lsm_bools) (by decide) ?_
    exact ⟨rfl, rfl, Ext.app _ _, y, _, rfl, rfl, by dsimp only at hl ⊢; lsm_bools, app_at⟩
  case fin =>
    intro os5 ys he5 hy5 hp5
    rw [List.filter_eq_self.mpr (fun _ _ => rfl)] at hp5
    have hrows := RowsAt.ofPr hp5
    clear hp5
    have hc5 := he5 _ _ hc4
    have hd5 := he5 _ _ hd4
    have hj5 := he5 _ _ hj4
    have he5 := he4.trans he5
    generalize hm5 : os4.length + 1 = m5 at *
    repeat' tb_start
    refine ex_cons ?_
    refine ex_Try ?_
    refine ex_cons ?_
    refine ex_AssignSet1 rfl rfl (by rw [hs]; rfl) ?_
    refine ev_SetComp [(Str.ofString "sep", st.os.length)] (fun _ => rfl) (fun _ _ => rfl) rfl (by rw [hcl]; exact compOk1 rfl rfl rfl rfl) ?_
    repeat' tb_start
    refine' comp_srcS [(Str.ofString "sep", st.os.length)] true ?hc2 ?hx2 ?hne2 ?hit2 ?src2 ?turn2 ?fin2
    case hit2 => exact fun Q h => it_tup hj5 h
    case src2 => exact src_tup hj5
    case hc2 => decide
    case hx2 => exact lookup_relabel_local rfl
    case hne2 => rw [hxs]; simp
    case turn2 =>
      intro c2 os i a hin ha he hl
      obtain ⟨y, hy, rfl⟩ := strs_get ha
      have hsc := hin.sc hs
      have hcl2 := hin.cl
      have hc6 := he _ _ hc5
      repeat' tb_start
      refine getM_str PySem.F.slot_str_startswith PySem.F.type_str_startswith ?_
      repeat' tb_start
      refine call_startswith ?_
      refine ⟨?_, rfl, rfl, Ext.refl _⟩
      rw [(hx y hy).2.2.1]
    case fin2 =>
      intro os6 he6 hs6
      refine ⟨_, true, rfl, hs6, ?_⟩
      have hc6 := he6 _ _ hc5
      have hd6 := he6 _ _ hd5
      have hj6 := he6 _ _ hj5
      have hy6 := he6 _ _ hy5
      have hr6 := hrows.mono he6
      have he6 := he5.trans he6
      clear hs6 hc5 hd5 hj5 hy5 hrows he5
      repeat' (first | tb_start | with_reducible first | refine ex_cons ?_ | refine ex_If ?_)
      refine ex_ALC [(Str.ofString "curdir", st.os.length + 1)] (swaps_LC hs rfl (by decide)) (by rw [hs]; rfl) (fun _ => rfl) (fun _ _ => rfl) rfl (by rw [hcl]; exact compOk1 rfl rfl rfl rfl) ?_
      repeat' tb_start
      have hrl : ∀ r ∈ xs.map (fun x => Txt.split x (Str.ofString "/")), r.length ≤ 100 := by
        intro r hr
        obtain ⟨x, hxx, rfl⟩ := List.mem_map.mp hr
        have := split_len x (Str.ofString "/"); have := (hx x hxx).2.1; lsm_bools
      have hsub : ∀ (a : AV) (i : Nat), ys[i]? = some a → ∃ j x, a = .obj j ∧ x ∈ xs ∧ os6[j]? = some (.list ((Txt.split x (Str.ofString "/")).map AV.str)) := by
        intro a i e
        obtain ⟨j, r, e1, e2, e3⟩ := hr6.get e
        obtain ⟨x, hxx, rfl⟩ := List.mem_map.mp (List.mem_of_getElem? e2)
        exact ⟨j, x, e1, hxx, e3⟩
      have hylen : ys.length = xs.length := by have := hr6.length; rw [List.length_map] at this; exact this.symm
      refine' comp_src [(Str.ofString "curdir", st.os.length + 1)] (fun _ => true) (fun os a y => ∃ j x j', a = .obj j ∧ x ∈ xs ∧ os6[j]? = some (.list ((Txt.split x (Str.ofString "/")).map AV.str)) ∧ y = .obj j' ∧ os6.length + 1 < j' ∧ os[j']? = some (.list ((namesOf x).map AV.str))) ?hc3 ?hx3 ?hz3 ?hit3 ?src3 ?hF3 ?turn3 ?fin3
      case hit3 => exact fun Q h => it_list hy6 h
      case src3 => exact src_list hy6
      case hc3 => decide
      case hx3 => exact lookup_relabel_local rfl
      case hz3 => lsm_bools
      case hF3 => rintro os os' a y hh ⟨j, x, j', e1, e2, e3, e4, e5, e6⟩; exact ⟨j, x, j', e1, e2, e3, e4, e5, hh _ _ e5 e6⟩
      case turn3 =>
        intro c2 os i a hin ha he hl
        dsimp only at hl he
        obtain ⟨j1, x, rfl, hxx, hj1⟩ := hsub a i ha
        have hsc := hin.sc hs
        have hcl2 := hin.cl
        have hj7 := he _ _ hj1
        have hd7 := he _ _ hd6
        refine tsts_nil ⟨rfl, rfl, rfl, Ext.refl _, fun _ => ?_⟩
        refine ev_LC [(Str.ofString "curdir", st.os.length + 1)] (fun _ => rfl) (fun _ _ => rfl) rfl (by rw [hcl2]; exact compOk1 rfl rfl rfl rfl) ?_
        repeat' tb_start
        refine' comp_src [(Str.ofString "curdir", st.os.length + 1)] (fun a => match a with | .str y => !decide (y = Str.ofString "") && !decide (y = Str.ofString ".") | _ => true) (fun _ a y => y = a) ?hc4 ?hx4 ?hz4 ?hit4 ?src4 ?hF4 ?turn4 ?fin4
        case hit4 => exact fun Q h => it_list hj7 h
        case src4 => exact src_list hj7
        case hF4 => exact fun _ _ _ _ _ h => h
        case hc4 => decide
        case hx4 => exact lookup_relabel_local rfl
        case hz4 => have := split_len x (Str.ofString "/"); have := (hx x hxx).2.1; simp; lsm_bools
        case turn4 =>
          intro c3 os i a hin ha he hl
          dsimp only at hl he
          obtain ⟨y, hyy, rfl⟩ := strs_get ha
          have hsc3 := hin.sc hsc
          have hcl3 := hin.cl
          have hd8 := he _ _ hd7
          have hylen : y.length ≤ 1000 := by have := part_short hyy; have := (hx x hxx).2.1; lsm_bools
          refine tsts_one (tt_And ?_)
          refine tt_plain rfl ?_
          repeat' tb_start
          refine tr_str (by lsm_bools) ?_
          by_cases q : y = Str.ofString ""
          · subst q
            refine ⟨fun _ => ⟨rfl, rfl, rfl, Ext.refl _, fun hf => (by cases hf)⟩, fun hf => absurd hf (by decide)⟩
          · have hyl : decide (y.length ≠ 0) = true := by
              apply decide_eq_true
              intro e
              apply q
              have : y.cps = #[] := Array.eq_empty_of_size_eq_zero e
              cases y; simp only at this; subst this; rfl
            rw [hyl]
            refine ⟨fun hf => (by cases hf), fun _ => ?_⟩
            refine tt_And ?_
            repeat' (first | tb_start | with_reducible first | refine ex_cons ?_ | refine ex_If ?_)
            by_cases q2 : y = Str.ofString "."
            · subst q2
              refine ⟨fun _ => ⟨rfl, rfl, rfl, Ext.refl _, fun hf => (by cases hf)⟩, fun hf => absurd hf (by decide)⟩
            · have e2 : (!decide (y = Str.ofString ".")) = true := by simp [q2]
              rw [e2]
              refine ⟨fun hf => (by cases hf), fun _ => ?_⟩
              refine tt_And0 ⟨by simp [q, q2], rfl, rfl, Ext.refl _, fun _ => ?_⟩
              repeat' (first | tb_start | with_reducible first | refine ex_cons ?_ | refine ex_If ?_)
              exact ⟨rfl, rfl, Ext.refl _, rfl⟩
        case fin4 =>
          intro os8 zs he8 hz8 hp8
          have e := hp8.map (f := id) (fun a _ b h => h)
          rw [List.map_id, List.filter_map] at e
          refine ⟨rfl, rfl, he8, j1, x, _, rfl, hxx, hj1, rfl, by dsimp only at hl ⊢; lsm_bools, ?_⟩
          rw [hz8, e, ← names_dot (hx x hxx).2.2.2]; rfl
      case fin3 =>
        intro os7 zs he7 hz7 hp7
        rw [List.filter_eq_self.mpr (fun _ _ => rfl)] at hp7
        have hrw := RowsAt.ofPr2 hr6 hp7
        dsimp only at hz7 he7
        have hc7 := he7 _ _ hc6
        have hd7 := he7 _ _ hd6
        have he7 := he6.trans he7
        clear hp7 hr6 hsub hy6 hc6 hd6 he6 hj6
        have hrk : ∀ r ∈ xs.map namesOf, r.length ≤ 100 ∧ ∀ x ∈ r, okS x := names_ok fun x hxx => ⟨(hx x hxx).1, (hx x hxx).2.1⟩
        have hrne : xs.map namesOf ≠ [] := by rw [hxs]; simp
        have hrlen : (xs.map namesOf).length = xs.length := List.length_map ..
        generalize hrr : xs.map namesOf = rows at *
        have hzl : zs.length = rows.length := hrw.length.symm
        generalize hm7 : os6.length + 1 = m7 at *
        repeat' tb_start
        refine ex_cons ?_
        repeat' tb_start
        refine call_minR hz7 (by lsm_bools) hrw (by intro e; rw [e] at hzl; exact hrne (List.length_eq_zero_iff.mp hzl.symm)) fun a1 ha1 => ?_
        rw [hzl] at ha1
        obtain ⟨j1, r1, rfl, hr1, hj1⟩ := hrw.get ha1
        repeat' tb_start
        refine ex_cons ?_
        repeat' tb_start
        refine call_maxR hz7 (by lsm_bools) hrw (by intro e; rw [e] at hzl; exact hrne (List.length_eq_zero_iff.mp hzl.symm)) fun a2 ha2 => ?_
        rw [hzl] at ha2
        obtain ⟨j2, r2, rfl, hr2, hj2⟩ := hrw.get ha2
        obtain ⟨hlcp, hlt⟩ := lcp_best hrne hr1 hr2
        have hk1 := hrk r1 (List.mem_of_getElem? hr1)
        have hk2 := hrk r2 (List.mem_of_getElem? hr2)
        clear hr1 hr2 ha1 ha2
        repeat' tb_start
        refine ex_cons ?_
        repeat' tb_start
        refine ex_cons ?_
        refine ex_J (CpE st rows) ?_ ?_
        · refine ex_ForE (fun _ => rfl) (by rw [hs]; rfl) (by rw [hs]; rfl) ?_
          repeat' tb_start
          refine call_enum hj1 ?_
          dsimp only
          refine ⟨os7.length + 1, os7.length, j1, r1.map AV.str, rfl, by lsm_bools, by simp, CpI st os7 j1 j2 r1 r2, ?_, ?_⟩
          · refine ⟨Nat.zero_le _, rfl, Ext.app _ _, by kct_strs, by kct_strs, by kct_strs, by kct_strs, by simp, by simp⟩
          · rintro i ⟨mm, oo, gg⟩ ⟨hi, rfl, hee, hab, hco, hs1, hs2, hen, hit⟩
            dsimp only at hee hab hco hs1 hs2 hen hit
            have hpre : (lcpG r1 r2).length ≤ r1.length := ((pre_lcp _ r1 r2).mp (List.prefix_refl _)).1.length_le
            have hj1l : j1 < os7.length := (List.getElem?_eq_some_iff.mp hj1).1
            have hj2l : j2 < os7.length := (List.getElem?_eq_some_iff.mp hj2).1
            refine ⟨by rw [List.length_map]; lsm_bools, hen, hit, hee _ _ hj1, fun v hv => ?_, fun hv => ?_⟩
            · obtain ⟨x, hxm, rfl⟩ : ∃ x, r1[i]? = some x ∧ v = .str x := by
                rw [List.getElem?_map] at hv
                cases q : r1[i]? with
                | none => rw [q] at hv; cases hv
                | some x => rw [q] at hv; exact ⟨x, rfl, (Option.some.inj hv).symm⟩
              obtain ⟨y, hym, hiff, hno⟩ := lcpG_at hlt hi hxm
              have hi100 : i < r1.length := (List.getElem?_eq_some_iff.mp hxm).1
              have he8 : Ext os7 ((oo.set os7.length (itO "list_iterator" j1 (i + 1))).set (os7.length + 1) (enO os7.length (i + 1))) := (hee.set (Nat.le_refl _)).set (by lsm_bools)
              have hen8 : ((oo.set os7.length (itO "list_iterator" j1 (i + 1))).set (os7.length + 1) (enO os7.length (i + 1)))[os7.length + 1]? = some (enO os7.length (i + 1)) := set_get (set_get_ne hen (by lsm_bools))
              have hit8 : ((oo.set os7.length (itO "list_iterator" j1 (i + 1))).set (os7.length + 1) (enO os7.length (i + 1)))[os7.length]? = some (itO "list_iterator" j1 (i + 1)) := set_get_ne (set_get hit) (by lsm_bools)
              generalize (oo.set os7.length (itO "list_iterator" j1 (i + 1))).set (os7.length + 1) (enO os7.length (i + 1)) = o8 at *
              refine ex_cons (ex_If ?_)
              repeat' tb_start
              refine sub_list (he8 _ _ hj2) (fun _ _ => rfl) (by lsm_bools) (by lsm_bools) (a := .str y) (by rw [Int.toNat_natCast, List.getElem?_map, hym]; rfl) ?_
              repeat' tb_start
              refine ⟨fun hb => ?_, fun hb => ?_⟩
              · have hne : x ≠ y := by simpa using hb
                refine ex_cons ?_
                refine ex_Assign rfl (by rw [hs]; rfl) ?_
                refine ev_SubSlice ?_
                repeat' tb_start
                refine ev_part0 ?_
                refine ev_part1 ?_
                repeat' tb_start
                refine sl_strs (n := i) rfl (he8 _ _ hj1) (by lsm_bools) ?_
                repeat' (first | tb_start | with_reducible first | refine ex_cons ?_ | refine ex_If ?_)
                refine ⟨rfl, rfl, he7.trans (he8.trans (Ext.app _ _)), by kct_strs, Ext.app _ _ _ _ (he8 _ _ hc7), _, by kct_strs, ?_⟩
                rw [← hlcp, hno hne]; exact app_at
              · have heq : x = y := by simpa using hb
                repeat' (first | tb_start | with_reducible first | refine ex_cons ?_ | refine ex_If ?_)
                exact ⟨hiff.mp heq, rfl, he8, by kct_strs, by kct_strs, by kct_strs, by kct_strs, hen8, hit8⟩
            · have : (lcpG r1 r2).length = r1.length := by
                have : r1.length ≤ i := by simpa using hv
                lsm_bools
              refine ex_nil ⟨rfl, rfl, he7.trans (hee.set (Nat.le_refl _)), hab, set_get_ne (hee _ _ hc7) (by have := (List.getElem?_eq_some_iff.mp hc7).1; lsm_bools), j1, hco, ?_⟩
              rw [← hlcp, lcpG_all this]
              exact set_get_ne (hee _ _ hj1) (by lsm_bools)
        · rintro ⟨mm, oo, gg⟩ ⟨rfl, hee, hab, hcc, jc, hco, hjc⟩
          dsimp only at hee hab hcc hco hjc
          repeat' (first | tb_start | with_reducible first | refine ex_cons ?_ | refine ex_If ?_)
          refine tt_plain rfl ?_
          repeat' (first | tb_start | with_reducible first | refine ex_cons ?_ | refine ex_If ?_)
          refine getM_str PySem.F.slot_str_join PySem.F.type_str_join ?_
          repeat' (first | tb_start | with_reducible first | refine ex_cons ?_ | refine ex_If ?_)
          have hlc : ∀ x ∈ lcpA rows, okS x := fun x hx' => hk1.2 x (((pre_lcp _ r1 r2).mp (by rw [hlcp]; exact List.prefix_refl _)).1.subset hx')
          have hll : (lcpA rows).length ≤ 100 := by
            have : lcpA rows <+: r1 := ((pre_lcp _ r1 r2).mp (by rw [hlcp]; exact List.prefix_refl _)).1
            have := this.length_le; lsm_bools
          have hsum : ((lcpA rows).map (·.length)).sum ≤ (lcpA rows).length * 1000 := PySem.StrLaws.sumLen_le _ fun y hy => (hlc y hy).2
          have hsum2 : (lcpA rows).length * (Str.ofString "/").length ≤ 100 * 1 := Nat.mul_le_mul hll (by decide)
          refine call_join hjc (by lsm_bools) ?_
          refine op_addS (by have := PySem.StrLaws.join_length_le (Str.ofString "/") (lcpA rows); have : (Str.ofString "/").length = 1 := rfl; lsm_bools) ?_
          repeat' (first | tb_start | with_reducible first | refine ex_cons ?_ | refine ex_If ?_)
          exact h _ hee
-- HN
noncomputable abbrev sl : Str := Str.ofString "/"
theorem sl_eq : Str.ofString "/" = ⟨#[47]⟩ := by decide +kernel
theorem emp_eq : Str.ofString "" = Str.empty := by decide +kernel
theorem str_ext {x y : Str} (h : x.cps.toList = y.cps.toList) : x = y := by cases x; cases y; simp only [Str.mk.injEq]; exact Array.toList_inj.mp h
theorem join_cons2 (s x y : Str) (r : List Str) : Str.join s (x :: y :: r) = x ++ s ++ Str.join s (y :: r) := rfl
theorem tl_app (a b : Str) : (a ++ b).cps.toList = a.cps.toList ++ b.cps.toList := by rw [PySem.Str.cps_append]; simp
theorem free_cut {c : Nat} : ∀ {a b r s : List Nat}, c ∉ a → c ∉ b → a ++ c :: r = b ++ c :: s → a = b ∧ r = s
  | [], [], _, _, _, _, h => by simp at h; exact ⟨rfl, h⟩
  | [], y :: b, _, _, _, h2, h => by simp at h; exact absurd (by simp [h.1]) h2
  | x :: a, [], _, _, h1, _, h => by simp at h; exact absurd (by simp [h.1]) h1
  | x :: a, y :: b, r, s, h1, h2, h => by
    simp only [List.cons_append, List.cons.injEq] at h
    obtain ⟨e1, e2⟩ := free_cut (fun q => h1 (List.mem_cons_of_mem _ q)) (fun q => h2 (List.mem_cons_of_mem _ q)) h.2
    exact ⟨by rw [h.1, e1], e2⟩
theorem join_inj (c : Nat) : ∀ {A B : List Str}, A ≠ [] → B ≠ [] → (∀ p ∈ A, c ∉ p.cps.toList) → (∀ p ∈ B, c ∉ p.cps.toList) → Str.join ⟨#[c]⟩ A = Str.join ⟨#[c]⟩ B → A = B
  | [], _, h, _, _, _, _ => absurd rfl h
  | _, [], _, h, _, _, _ => absurd rfl h
  | [a], [b], _, _, _, _, h => by have : a = b := h; rw [this]
  | [a], b :: b2 :: B, _, _, ha, hb, h => by
    have h : a = b ++ ⟨#[c]⟩ ++ Str.join ⟨#[c]⟩ (b2 :: B) := h
    exact absurd (by rw [h, tl_app, tl_app]; simp) (ha a (by simp))
  | a :: a2 :: A, [b], _, _, ha, hb, h => by
    have h : a ++ ⟨#[c]⟩ ++ Str.join ⟨#[c]⟩ (a2 :: A) = b := h
    exact absurd (by rw [← h, tl_app, tl_app]; simp) (hb b (by simp))
  | a :: a2 :: A, b :: b2 :: B, _, _, ha, hb, h => by
    have h : a ++ ⟨#[c]⟩ ++ Str.join ⟨#[c]⟩ (a2 :: A) = b ++ ⟨#[c]⟩ ++ Str.join ⟨#[c]⟩ (b2 :: B) := h
    have h' := congrArg (fun x : Str => x.cps.toList) h
    simp only [tl_app, List.append_assoc] at h'
    obtain ⟨e1, e2⟩ := free_cut (ha a (by simp)) (hb b (by simp)) h'
    rw [str_ext e1, join_inj c (by simp) (by simp) (fun p hp => ha p (List.mem_cons_of_mem _ hp)) (fun p hp => hb p (List.mem_cons_of_mem _ hp)) (str_ext e2)]
theorem split_of_join {c : Nat} {A : List Str} (h : A ≠ []) (ha : ∀ p ∈ A, c ∉ p.cps.toList) : Txt.split (Str.join ⟨#[c]⟩ A) ⟨#[c]⟩ = A := by
  have h1 := PySem.StrLaws.join_split (Str.join ⟨#[c]⟩ A) ⟨#[c]⟩
  have h2 := PySem.StrLaws.split_free (Str.join ⟨#[c]⟩ A) c
  by_cases q : Txt.split (Str.join ⟨#[c]⟩ A) ⟨#[c]⟩ = []
  · exfalso
    unfold Txt.split at q
    split at q
    · cases q
    · split at q
      · cases q
      · rw [PySem.StrLaws.partsBetween_eq] at q
        obtain ⟨p, r, e⟩ := PySem.StrLaws.partsFrom_ne (Str.join ⟨#[c]⟩ A) (⟨#[c]⟩ : Str).length 0 (Builtin.Str.occurrences (Str.join ⟨#[c]⟩ A) ⟨#[c]⟩ 0 (Str.join ⟨#[c]⟩ A).length ((Str.join ⟨#[c]⟩ A).length + 1))
        rw [e] at q; cases q
  · exact join_inj c q h h2 ha h1
noncomputable def okN (L : List Str) : Prop := L.length ≤ 4 ∧ ∀ y ∈ L, y ∈ menuL
noncomputable def pathOf (L : List Str) : Str := Str.ofString "/" ++ Str.join (Str.ofString "/") L
theorem menu_free : ∀ y ∈ menuL, 47 ∉ y.cps.toList := by decide +kernel
theorem menu_ne : ∀ y ∈ menuL, y ≠ Str.ofString "" := by decide +kernel
theorem menu_dot : ∀ y ∈ menuL, y ≠ Str.ofString "." := by decide +kernel
theorem menu_ok : ∀ y ∈ menuL, PyData.strOk y = true := by decide +kernel
theorem strOk_app {x y : Str} (h1 : PyData.strOk x = true) (h2 : PyData.strOk y = true) : PyData.strOk (x ++ y) = true := by
  unfold PyData.strOk at *
  rw [PySem.Str.cps_append, Array.all_append, h1, h2]; rfl
theorem strOk_join {s : Str} (hs : PyData.strOk s = true) : ∀ {L : List Str}, (∀ y ∈ L, PyData.strOk y = true) → PyData.strOk (Str.join s L) = true
  | [], _ => (by decide +kernel : PyData.strOk Str.empty = true)
  | [x], h => h x (by simp)
  | x :: y :: r, h => by
    rw [join_cons2]
    exact strOk_app (strOk_app (h x (by simp)) hs) (strOk_join hs fun z hz => h z (List.mem_cons_of_mem _ hz))
theorem pathOf_eq (L : List Str) : pathOf L = Str.join ⟨#[47]⟩ (Str.empty :: (if L = [] then [Str.empty] else L)) := by
  unfold pathOf
  rw [sl_eq]
  cases L with
  | nil => decide +kernel
  | cons x r => rw [if_neg (by simp), join_cons2, PySem.Str.empty_append]
theorem names_path {L : List Str} (h : okN L) : namesOf (pathOf L) = L := by
  unfold namesOf
  rw [pathOf_eq, sl_eq, split_of_join (by simp)]
  · rw [emp_eq]
    cases L with
    | nil => decide +kernel
    | cons x r =>
      rw [if_neg (by simp), List.filter_cons_of_neg (by simp), List.filter_eq_self]
      intro y hy
      have := menu_ne y (h.2 y hy)
      rw [emp_eq] at this
      simp [this]
  · intro p hp
    rcases List.mem_cons.mp hp with rfl | hp
    · decide +kernel
    · cases L with
      | nil => simp at hp; subst hp; decide +kernel
      | cons x r => rw [if_neg (by simp)] at hp; exact menu_free p (h.2 p hp)
theorem path_len {L : List Str} (h : okN L) : (pathOf L).length ≤ 25 := by
  unfold pathOf
  rw [PySem.Str.length_append]
  have h1 := PySem.StrLaws.join_length_le (Str.ofString "/") L
  have h2 : (L.map (·.length)).sum ≤ L.length * 4 := PySem.StrLaws.sumLen_le _ fun y hy => menu_len y (h.2 y hy)
  have h3 : (Str.ofString "/").length = 1 := rfl
  have := h.1
  rw [h3] at h1 ⊢
  lsm_bools
theorem path_ok {L : List Str} (h : okN L) : okP (pathOf L) := by
  refine ⟨⟨strOk_app (by decide +kernel) (strOk_join (by decide +kernel) fun y hy => menu_ok y (h.2 y hy)), by have := path_len h; lsm_bools⟩, by have := path_len h; lsm_bools, ?_, ?_⟩
  · unfold pathOf
    rw [Bool.and_eq_true]
    refine ⟨decide_eq_true (by rw [PySem.Str.length_append]; lsm_bools), ?_⟩
    rw [sl_eq]
    have := (PySem.StrLaws.subAt_one ((⟨#[47]⟩ : Str) ++ Str.join ⟨#[47]⟩ L) 47 0).mpr (by rw [tl_app]; rfl)
    exact this.2
  · rw [names_path h]; exact fun y hy => menu_dot y (h.2 y hy)
theorem okN_pre {L M : List Str} (h : okN L) (hp : M <+: L) : okN M := ⟨Nat.le_trans hp.length_le h.1, fun y hy => h.2 y (hp.subset hy)⟩
theorem okN_lcp {rs : List (List Str)} {r : List Str} (hr : r ∈ rs) (h : okN r) : okN (lcpA rs) := okN_pre h (lcpA_pre hr)
theorem join_emp : ∀ L : List Str, L ≠ [] → Str.join (Str.ofString "") (L.map fun y => Str.ofString "/" ++ y) = pathOf L
  | [], h => absurd rfl h
  | [x], _ => rfl
  | x :: y :: r, _ => by
    have ih := join_emp (y :: r) (by simp)
    rw [List.map_cons, List.map_cons] at *
    rw [join_cons2, ih]
    unfold pathOf
    rw [join_cons2, emp_eq, PySem.Str.append_empty]
    simp only [PySem.Str.append_assoc]
theorem okN_num (x : Int) : okN (namesNum x) := by
  refine ⟨?_, fun y hy => ?_⟩
  · unfold namesNum
    rw [List.length_map, List.length_range]
    have := Int.fmod_lt_of_pos x (show (0 : Int) < 3 by decide)
    have := Int.fmod_nonneg_of_pos x (show (0 : Int) < 3 by decide)
    lsm_bools
  · unfold namesNum at hy
    obtain ⟨i, _, rfl⟩ := List.mem_map.mp hy
    exact nameAt_mem x i
theorem placeNum_path (x : Int) : placeNum x = pathOf (namesNum x) := by
  unfold placeNum
  apply join_emp
  unfold namesNum
  have := Int.fmod_nonneg_of_pos x (show (0 : Int) < 3 by decide)
  intro e
  have := congrArg List.length e
  rw [List.length_map, List.length_range] at this
  simp at this
  lsm_bools
-- WG
theorem VRel.ints {ρ : List Addr} : ∀ {ns : List Int} {vs : List Value}, VRel ρ (ns.map AV.int) vs → IntsAre vs ns
  | [], _, h => by cases h; exact .nil
  | n :: ns, _, ⟨v, ws, e, ⟨t, h⟩, r⟩ => by subst e; subst h; exact .cons n t (VRel.ints r)
theorem VRel.ofInts (ρ : List Addr) {ns : List Int} {vs : List Value} (h : IntsAre vs ns) : VRel ρ (ns.map AV.int) vs := by
  induction h with
  | nil => rfl
  | cons n t _ ih => exact ⟨_, _, rfl, ⟨t, rfl⟩, ih⟩
theorem reads_ints (h : Heap) {ns : List Int} {vs : List Value} (hi : IntsAre vs ns) : ReadsAll h vs (ns.map PyData.int) [] := by
  induction hi with
  | nil => exact .nil
  | cons n t _ ih => exact ReadsAll.cons (as := []) (bs := []) (.int n t) ih
theorem eqv_ints : ∀ xs ys : List Int, PyData.eqvAll (xs.map PyData.int) (ys.map PyData.int) = decide (xs = ys)
  | [], [] => by simp [PyData.eqvAll]
  | [], _ :: _ => by simp [PyData.eqvAll]
  | _ :: _, [] => by simp [PyData.eqvAll]
  | x :: xs, y :: ys => by
    simp only [List.map_cons, PyData.eqvAll, PyData.eqv, eqv_ints xs ys]
    by_cases h : x = y <;> by_cases h' : xs = ys <;> simp [h, h']
theorem lay_ints : ∀ xs : List Int, (∀ x ∈ xs, x.natAbs ≤ 1000) → xs.length ≤ 1000 → (PyData.list (xs.map PyData.int)).layable0 = true := by
  intro xs h hz
  have a1 : ∀ ys : List Int, (∀ x ∈ ys, x.natAbs ≤ 1000) → PyData.canLayAll0 (ys.map PyData.int) = true := by
    intro ys
    induction ys with
    | nil => intro _; rfl
    | cons y ys ih => intro h; simp [PyData.canLayAll0, PyData.canLay0, ih fun x hx => h x (by simp [hx])]
  have a2 : ∀ ys : List Int, PyData.depthAll (ys.map PyData.int) = 0 := by
    intro ys
    induction ys with
    | nil => rfl
    | cons y ys ih => simp [PyData.depthAll, PyData.depth, ih]
  have a3 : ∀ ys : List Int, (∀ x ∈ ys, x.natAbs ≤ 1000) → PyData.weightAll (ys.map PyData.int) ≤ 1002 * ys.length := by
    intro ys
    induction ys with
    | nil => intro _; simp [PyData.weightAll]
    | cons y ys ih =>
      intro h
      have := ih fun x hx => h x (by simp [hx])
      have := h y (by simp)
      have hw : (if (y == 0) = true then 0 else y.natAbs.log2 + 1) ≤ 1001 := by
        split
        · lsm_bools
        · have := Nat.log2_le_self y.natAbs; lsm_bools
      simp only [List.map_cons, PyData.weightAll, PyData.weight, List.length_cons]
      generalize (if (y == 0) = true then 0 else y.natAbs.log2 + 1) = z at *
      lsm_bools
  have h3 := a3 xs h
  have h4 : 1002 * xs.length ≤ 1002000 := by lsm_bools
  have h5 : PyData.weightAll (xs.map PyData.int) ≤ 2 ^ 20 := Nat.le_trans h3 (Nat.le_trans h4 (by decide))
  unfold PyData.layable0
  simp only [PyData.canLay0, a1 xs h, PyData.depth, a2, PyData.weight, Bool.and_eq_true, decide_eq_true_eq]
  exact ⟨⟨trivial, by decide⟩, decide_eq_true h5⟩
theorem sorted_uniq : ∀ {xs ys : List Int}, xs.Perm ys → xs.Pairwise (· ≤ ·) → ys.Pairwise (· ≤ ·) → xs = ys := fun hp hx hy =>
  List.Perm.eq_of_pairwise (fun a b _ _ h1 h2 => Int.le_antisymm h1 h2) hx hy hp
section
variable {W : Wd} {c : Cx} {st : St}
theorem op_eqI {j k : Nat} {xs ys : List Int} {Q : AV → St → Prop} (hj : st.os[j]? = some (.list (xs.map AV.int))) (hk : st.os[k]? = some (.list (ys.map AV.int))) (hx : ∀ x ∈ xs, x.natAbs ≤ 1000) (hy : ∀ x ∈ ys, x.natAbs ≤ 1000) (zx : xs.length ≤ 1000) (zy : ys.length ≤ 1000)
    (h : Q (.bool (decide (xs = ys))) st) : Op2 W c VR st (.obj j) (.obj k) (compareOp .Eq) Q := fun ρ s E v u r hv hu => by
  obtain ⟨a, ws, n, e1, h1, h2, h3⟩ := r.list hj hv
  obtain ⟨b, ws', n', e1', h1', h2', h3'⟩ := r.list hk hu
  subst e1; subst e1'
  have un := r.ok.un
  refine eq_dataS (Reads.list h2 rfl rfl (by rw [List.toList_toArray]; exact reads_ints _ h3.ints)) (Reads.list h2' rfl rfl (by rw [List.toList_toArray]; exact reads_ints _ h3'.ints)) (lay_ints xs hx zx) (lay_ints ys hy zy) (by lsm_bools) ?_
  rw [PyData.eqv, eqv_ints]
  exact Post.here h r rfl
theorem call_sortedI {k : Nat} {xs : List Int} {Q : AV → St → Prop} (hk : st.os[k]? = some (.list (xs.map AV.int))) (hz : xs.length ≤ 60)
    (h : ∀ (os' : List AO) (j : Nat) (ys : List Int), Ext st.os os' → ys.Perm xs → ys.Pairwise (· ≤ ·) → os'[j]? = some (.list (ys.map AV.int)) → Q (.obj j) { st with os := os' }) : CallV W c st (.builtin "sorted") [.obj k] Q := fun ρ s E vs r ⟨v, _, e, hv, e'⟩ => by
  subst e; subst e'
  obtain ⟨a, ws, n, e1, h1, h2, h3⟩ := r.list hk hv
  subst e1
  have hlen := h3.length
  rw [List.length_map] at hlen
  refine sorted_ints (l := a) (vs := ws) ⟨_, h2, rfl, n, rfl⟩ h3.ints (by lsm_bools) fun out ns' hI hp hs => ?_
  obtain ⟨e, he⟩ := sortedAll_at s.heap ws out
  have r1 : Rp W c ρ st { s with heap := sortedAll s.heap ws out } := r.grow (n := s.toks) fun b o hb => sortedAll_old hb
  obtain ⟨n1, n2, n3⟩ := r.newAddr (a := s.heap.objs.size + 1) (by lsm_bools)
  have r2 := r1.adopt (a := s.heap.objs.size + 1) (o := .list (ns'.map AV.int)) he ⟨out.toList, e, rfl, VRel.ofInts _ hI⟩ n1 n2 n3
  exact ⟨[s.heap.objs.size + 1], .obj st.os.length, _, r2, ⟨_, by rw [← r.objs.len]; simp, rfl⟩, h _ _ _ (Ext.app _ _) hp hs (by simp)⟩
theorem call_extendL {k j : Nat} {l m : List AV} {Q : AV → St → Prop} (hk : st.os[k]? = some (.list l)) (hj : st.os[j]? = some (.list m)) (hz : l.length + m.length ≤ 100000) (hne : j ≠ k) (hm : m ≠ [])
    (h : Q .none { st with os := st.os.set k (.list (l ++ m)) }) : CallV W c st (.builtin "list.extend") [.obj k, .obj j] Q := fun ρ s E vs r ⟨v, _, e, hv, u, _, e', hu, e''⟩ => by
  subst e; subst e'; subst e''
  obtain ⟨a, ws, n, e1, h1, h2, h3⟩ := r.list hk hv
  obtain ⟨b, ws', n', e1', h1', h2', h3'⟩ := r.list hj hu
  subst e1; subst e1'
  have hl := h3.length
  have hl' := h3'.length
  refine call_meets PySem.F.slot_list_extend ⟨_, h2, rfl⟩ PySem.F.entry_list_extend (PySem.F.args_list_extend_2 _ _) (PySem.AutoSeq1.list_extend_list_list_0 a (List.toArray ws) n b (List.toArray ws') n' (extend_door (by simp only [List.size_toArray]; unfold sizeLine; lsm_bools)) (by simp only [List.size_toArray]; unfold sizeLine; lsm_bools) (by simp only [List.size_toArray]; unfold sizeLine; lsm_bools)) ⟨h2, h2', ?_⟩
  have hg : (s.heap.update a (Obj.mapSeq fun x => x ++ List.toArray ws')).get? a = some (PySem.W.listOf (List.toArray (ws ++ ws')) (n + 1)) := by
    rw [Heap.get?_update_self _ h2 rfl]
    have : ws' ≠ [] := by intro e; subst e; exact hm (List.length_eq_zero_iff.mp hl'.symm)
    simp [Obj.mapSeq, PySem.W.listOf, this]
  exact Post.here h (r.change (o' := .list (l ++ m)) h1 (Heap.SameBut.update ..) hg ⟨ws ++ ws', n + 1, rfl, h3.append h3'⟩) rfl
end
-- EG
noncomputable def kL (L : List Str) : Int × Str := (-(L.length : Int), pathOf L)
noncomputable def HB (os : List AO) (k : Nat) (l : List AV) (g : AV → List Str) : Prop := os[k]? = some (.list l) ∧ Tups (fun a => kL (g a)) os l ∧ HPr (fun a => (kL (g a)).1) l
theorem HPr.congr {α : Type} {k k' : α → Int} {l : List α} (h : HPr k l) (e : ∀ a ∈ l, k a = k' a) : HPr k' l := by
  intro i hi hil
  have := h i hi hil
  have q : ∀ j, j < l.length → KK k l j = KK k' l j := by
    intro j hj; unfold KK; rw [List.getElem?_eq_getElem hj]; exact e _ (List.getElem_mem hj)
  rw [q _ (by lsm_bools), q _ hil] at this
  exact this
theorem HB.mono {os os' : List AO} {k : Nat} {l : List AV} {g : AV → List Str} (h : HB os k l g) (hk : os'[k]? = os[k]?) (ht : ∀ (j : Nat) (t : List AV), os[j]? = some (AO.tup t) → os'[j]? = some (AO.tup t)) : HB os' k l g :=
  ⟨hk.trans h.1, fun a ha => let ⟨j, e, q⟩ := h.2.1 a ha; ⟨j, e, ht _ _ q⟩, h.2.2⟩
theorem HB.ext {os os' : List AO} {k : Nat} {l : List AV} {g : AV → List Str} (h : HB os k l g) (he : Ext os os') : HB os' k l g :=
  h.mono ((he _ _ h.1).trans h.1.symm) fun j t e => he _ _ e
theorem HB.set {os : List AO} {k q : Nat} {l : List AV} {g : AV → List Str} {o : AO} (h : HB os k l g) (hk : q ≠ k) (hq : ∀ (t : List AV), os[q]? ≠ some (AO.tup t)) : HB (os.set q o) k l g :=
  h.mono (by rw [List.getElem?_set_ne hk]) fun j t e => set_get_ne e (by intro p; subst p; exact hq _ e)
noncomputable def gset (g : AV → List Str) (j : Nat) (L : List Str) : AV → List Str := fun a => match a with | .obj i => if i = j then L else g a | _ => g a
theorem gset_same {g : AV → List Str} {j : Nat} {L : List Str} : gset g j L (.obj j) = L := by simp [gset]
theorem gset_ne {g : AV → List Str} {j : Nat} {L : List Str} {a : AV} (h : a ≠ .obj j) : gset g j L a = g a := by
  unfold gset
  cases a with
  | obj i => simp only; rw [if_neg (by intro e; subst e; exact h rfl)]
  | _ => rfl
/-- an object that came later is none of the heap's -/
theorem HB.fresh {os : List AO} {k : Nat} {l : List AV} {g : AV → List Str} {j : Nat} (h : HB os k l g) (hj : os.length ≤ j) : ∀ a ∈ l, a ≠ .obj j := by
  intro a ha e
  subst e
  obtain ⟨i, e, q⟩ := h.2.1 _ ha
  cases e
  have := (List.getElem?_eq_some_iff.mp q).1; lsm_bools
theorem HB.re {os : List AO} {k : Nat} {l : List AV} {g : AV → List Str} {j : Nat} (L : List Str) (h : HB os k l g) (hj : ∀ a ∈ l, a ≠ .obj j) : HB os k l (gset g j L) := by
  refine ⟨h.1, fun a ha => ?_, h.2.2.congr fun a ha => by rw [gset_ne (hj a ha)]⟩
  have := h.2.1 a ha
  dsimp only at this ⊢
  rw [gset_ne (hj a ha)]; exact this
theorem hb_push {w : World} {c : Cx} {st : St} {k j : Nat} {l : List AV} {g : AV → List Str} {L : List Str} {Q : AV → St → Prop} (hr : 2 ≤ c.room) (hb : HB st.os k l g) (hz : l.length ≤ 900) (hf : ∀ a ∈ l, a ≠ .obj j) (hj : st.os[j]? = some (.tup [.int (-(L.length : Int)), .str (pathOf L)]))
    (h : ∀ l' g', HB (st.os.set k (.list l')) k l' g' → (l'.map g').Perm (L :: l.map g) → Q .none { st with os := st.os.set k (.list l') }) : CallV (WW w) c st (.ref 136) [.obj k, .obj j] Q := by
  have hb2 := hb.re L hf
  have ht : Tups (fun a => kL (gset g j L a)) st.os (l ++ [.obj j]) := fun a ha => by
    rcases List.mem_append.mp ha with ha | ha
    · exact hb2.2.1 a ha
    · rw [List.mem_singleton] at ha; subst ha
      dsimp only
      rw [gset_same]; exact ⟨j, rfl, hj⟩
  refine spec_heappush (kf := fun a => kL (gset g j L a)) hr hb.1 hz ht hb2.2.2 fun l' hp hh => ?_
  refine h l' (gset g j L) ⟨set_get hb.1, fun a ha => (ht a (hp.mem_iff.mp ha)).set hb.1, hh⟩ ?_
  refine (hp.map _).trans ?_
  rw [List.map_append, List.map_singleton, gset_same, List.map_congr_left fun a ha => gset_ne (hf a ha)]
  exact List.perm_append_singleton _ _
theorem hb_pop {w : World} {c : Cx} {st : St} {k : Nat} {l : List AV} {g : AV → List Str} {Q : AV → St → Prop} (hr : 3 ≤ c.room) (hb : HB st.os k l g) (hz : l.length ≤ 900) (hne : l ≠ [])
    (h : ∀ j l', st.os[j]? = some (.tup [.int (-((g (.obj j)).length : Int)), .str (pathOf (g (.obj j)))]) → HB (st.os.set k (.list l')) k l' g → (AV.obj j :: l').Perm l → (∀ a ∈ l, -((g (.obj j)).length : Int) ≤ -((g a).length : Int)) →
      Q (.obj j) { st with os := st.os.set k (.list l') }) : CallV (WW w) c st (.ref 143) [.obj k] Q := by
  refine spec_heappop (kf := fun a => kL (g a)) hr hb.1 hz hne hb.2.1 hb.2.2 fun r l' hp hh hm => ?_
  obtain ⟨j, rfl, q⟩ := hb.2.1 r (hp.mem_iff.mp (by simp))
  exact h j l' q ⟨set_get hb.1, fun a ha => (hb.2.1 a (hp.mem_iff.mp (by simp [ha]))).set hb.1, hh⟩ hp hm
theorem hb_replace {w : World} {c : Cx} {st : St} {k j : Nat} {y : AV} {t : List AV} {g : AV → List Str} {L : List Str} {Q : AV → St → Prop} (hr : 3 ≤ c.room) (hb : HB st.os k (y :: t) g) (hz : t.length ≤ 800) (hf : ∀ a ∈ y :: t, a ≠ .obj j) (hj : st.os[j]? = some (.tup [.int (-(L.length : Int)), .str (pathOf L)]))
    (h : ∀ l' g', HB (st.os.set k (.list l')) k l' g' → (l'.map g').Perm (L :: t.map g) → Q y { st with os := st.os.set k (.list l') }) : CallV (WW w) c st (.ref 150) [.obj k, .obj j] Q := by
  have hb2 := hb.re L hf
  have ht : Tups (fun a => kL (gset g j L a)) st.os (.obj j :: t) := fun a ha => by
    rcases List.mem_cons.mp ha with rfl | ha
    · dsimp only
      rw [gset_same]; exact ⟨j, rfl, hj⟩
    · exact hb2.2.1 a (List.mem_cons_of_mem _ ha)
  refine spec_heapreplace (kf := fun a => kL (gset g j L a)) hr hb.1 hz ht hb2.2.2 fun l' hp hh _ => ?_
  refine h l' (gset g j L) ⟨set_get hb.1, fun a ha => (ht a (hp.mem_iff.mp ha)).set hb.1, hh⟩ ?_
  refine (hp.map _).trans ?_
  rw [List.map_cons, gset_same, List.map_congr_left fun a ha => gset_ne (hf a (List.mem_cons_of_mem _ ha))]
theorem hb_head {os : List AO} {k : Nat} {y : AV} {t : List AV} {g : AV → List Str} (hb : HB os k (y :: t) g) : IsT os y (-((g y).length : Int)) (pathOf (g y)) ∧ ∀ a ∈ y :: t, -((g y).length : Int) ≤ -((g a).length : Int) :=
  ⟨hb.2.1 y (by simp), HPr.head_le hb.2.2⟩
-- EI
theorem map_get {Ls : List (List Str)} {i : Nat} {a : AV} (h : ((Ls.map pathOf).map AV.str)[i]? = some a) : ∃ L, Ls[i]? = some L ∧ a = .str (pathOf L) := by
  rw [List.getElem?_map, List.getElem?_map] at h
  cases q : Ls[i]? with
  | none => rw [q] at h; cases h
  | some L => rw [q] at h; exact ⟨L, rfl, (Option.some.inj h).symm⟩
theorem lcp_fold {L1 L2 : List Str} {R : List (List Str)} : lcpA (lcpA [L1, L2] :: R) = lcpA (L1 :: L2 :: R) := by
  apply lcpA_perm_pre (by simp) (by simp)
  intro p
  simp only [List.mem_cons, forall_eq_or_imp, pre_lcpA p [L1, L2] (by simp)]
  simp [and_assoc]
theorem lcp_perm {A B : List (List Str)} (h : A.Perm B) (hA : A ≠ []) : lcpA A = lcpA B := by
  apply lcpA_perm_pre hA (by intro e; subst e; exact hA (List.Perm.eq_nil h))
  intro p
  exact ⟨fun q x hx => q x (h.mem_iff.mpr hx), fun q x hx => q x (h.mem_iff.mp hx)⟩
theorem lcp_len2 {L1 L2 : List Str} : (lcpA [L1, L2]).length ≤ L2.length := (lcpA_pre (rs := [L1, L2]) (by simp)).length_le
/-- what holds in the two loops -/
inductive FdA (st : St) (k : Nat) (Ls : List (List Str)) (st5 : St) : Prop
  | mk (h1 : st5.gn = st.gn) (h2 : Ext st.os st5.os) (h3 : st5.m.lookup (Str.ofString "line") = some (.obj k)) (h4 : st5.m.lookup (Str.ofString "heap") = some (.obj st.os.length)) (h5 : ∃ l g, HB st5.os st.os.length l g ∧ (l.map g).Perm Ls)
inductive FdBB (st : St) (k : Nat) (Ls : List (List Str)) (n : Nat) (st5 : St) (i : Nat) : Prop
  | mk (h1 : n + i = Ls.length) (h2 : st5.gn = st.gn) (h3 : Ext st.os st5.os) (h4 : st5.m.lookup (Str.ofString "line") = some (.obj k)) (h5 : st5.m.lookup (Str.ofString "heap") = some (.obj st.os.length)) (h6 : st5.os[st.os.length + 1]? = some (itO "list_iterator" k i)) (h7 : ∃ l g, HB st5.os st.os.length l g ∧ (l.map g).Perm (Ls.take i))
noncomputable abbrev FdB (st : St) (k : Nat) (Ls : List (List Str)) (n : Nat) (st5 : St) : Prop := ∃ (i : Nat), FdBB st k Ls n st5 i
inductive FdC (st : St) (oo : List AO) (Ls : List (List Str)) (st5 : St) : Prop
  | mk (h1 : st5.gn = st.gn) (h2 : Ext st.os st5.os) (h3 : st5.m.lookup (Str.ofString "heap") = some (.obj st.os.length)) (h4 : st5.m.lookup (Str.ofString "depths") = some (.obj oo.length)) (h5 : ∃ (l : List AV) (g : AV → List Str) (ds : List Int), HB st5.os st.os.length l g ∧ st5.os[oo.length]? = some (.list (ds.map AV.int)) ∧ ds.Pairwise (· ≤ ·) ∧ (∀ d ∈ ds, d.natAbs ≤ 4) ∧ ds.length ≤ 40 ∧ l.length = 1 ∧ lcpA (l.map g) = lcpA Ls)
inductive FdDB (st : St) (oo : List AO) (Ls : List (List Str)) (n : Nat) (st5 : St) (i : Nat) : Prop
  | mk (h1 : n + i = Ls.length - 1) (h2 : st5.gn = st.gn) (h3 : Ext st.os st5.os) (h4 : st5.m.lookup (Str.ofString "heap") = some (.obj st.os.length)) (h5 : st5.m.lookup (Str.ofString "depths") = some (.obj oo.length)) (h6 : st5.os[oo.length + 2]? = some (rgO (i : Int) (((Ls.length - 1 : Nat) : Int) - (i : Int)) 1)) (h7 : ∃ (l : List AV) (g : AV → List Str) (ds : List Int), HB st5.os st.os.length l g ∧ st5.os[oo.length]? = some (.list (ds.map AV.int)) ∧ ds.Pairwise (· ≤ ·) ∧ (∀ d ∈ ds, d.natAbs ≤ 4) ∧ ds.length = 2 * i ∧ l.length + i = Ls.length ∧ lcpA (l.map g) = lcpA Ls ∧ (∀ a ∈ l, okN (g a)) ∧ (∀ a ∈ l, ∀ d ∈ ds, d ≤ -((g a).length : Int)))
noncomputable abbrev FdD (st : St) (oo : List AO) (Ls : List (List Str)) (n : Nat) (st5 : St) : Prop := ∃ (i : Nat), FdDB st oo Ls n st5 i
theorem spec_folded {w : World} {c : Cx} {st : St} {k : Nat} {Ls : List (List Str)} {Q : AV → St → Prop} (hr : 9 ≤ c.room) (hk : st.os[k]? = some (.list ((Ls.map pathOf).map AV.str))) (hL : ∀ L ∈ Ls, okN L) (hz : Ls.length ≤ 10) (h0 : Ls ≠ [])
    (h : ∀ (os' : List AO), Ext st.os os' → Q (.str (pathOf (lcpA Ls))) { st with os := os' }) : CallV (WW w) c st (.ref 901) [.obj k] Q := by
  (refine' call_pos (m0 := [(Str.ofString "line", .obj k)]) ?ho ?hcd ?room ?hb ?hm ?hloc ?c1 ?c2 ?c3 ?c4 ?_; (case ho => (((try dsimp only [WW]); k_is))); (case hcd => (((try dsimp only [WW]); k_is))); (case c1 => exact rfl); (case c2 => exact rfl); (case c3 => exact rfl); (case c4 => decide); (case hm => (simp only [List.map_cons, List.map_nil]; decide)); (case hloc => (simp only [List.map_cons, List.map_nil]; decide)); (case room => lsm_bools); (case hb => first | (refine hb1 ?_; intro a; kernel_rfl) | (refine hb2 ?_; intro a b; kernel_rfl) | (refine hb3 ?_; intro a b d; kernel_rfl)))
  intro c' hs hcl hrm
  repeat' (first | tb_start | with_reducible first | refine ex_cons ?_ | refine ex_If ?_)
  refine ⟨by decide, ?_⟩
  repeat' (first | tb_start | with_reducible first | refine ex_cons ?_ | refine ex_If ?_)
  have hkl : k < st.os.length := (List.getElem?_eq_some_iff.mp hk).1
  refine ex_J (FdA st k Ls) ?_ ?_
  · refine ex_For (fun _ => rfl) (fun _ _ => rfl) ?_
    repeat' (first | tb_start | with_reducible first | refine ex_cons ?_ | refine ex_If ?_)
    refine it_list (idx_app hk) ?_
    dsimp only
    refine ⟨FdB st k Ls, Ls.length, ?_, ?_⟩
    · refine ⟨0, by lsm_bools, rfl, (Ext.app _ _).snoc, by kct_strs, by kct_strs, by simp, [], fun _ => [], ?_, by simp⟩
      refine ⟨by simp, ?_, ?_⟩
      · intro a ha; cases ha
      · intro i h1 h2; exact absurd h2 (by simp)
    · rintro n ⟨mm, oo, gg⟩ ⟨i, hn, rfl, hee, hln, hhp, hit, l, g, hb, hp⟩
      dsimp only at hee hln hhp hit hb
      have hlen : (st.os ++ [AO.list []]).length = st.os.length + 1 := by simp
      rw [hlen]
      refine nx_list hit (hee _ _ hk) (fun a ha => ?_) (fun hnone => ?_)
      · obtain ⟨L, hLi, rfl⟩ := map_get ha
        have hok := hL L (List.mem_of_getElem? hLi)
        have hil : i < Ls.length := (List.getElem?_eq_some_iff.mp hLi).1
        have hll : l.length = i := by have := hp.length_eq; rw [List.length_map, List.length_take] at this; lsm_bools
        refine as_Name (by rw [hs]; rfl) ?_
        have hb1 : HB (oo.set (st.os.length + 1) (itO "list_iterator" k (i + 1))) st.os.length l g := hb.set (by lsm_bools) fun t e => by rw [hit] at e; cases e
        have hit1 : (oo.set (st.os.length + 1) (itO "list_iterator" k (i + 1)))[st.os.length + 1]? = some (itO "list_iterator" k (i + 1)) := set_get hit
        have hee1 : Ext st.os (oo.set (st.os.length + 1) (itO "list_iterator" k (i + 1))) := hee.set (by lsm_bools)
        dsimp only
        generalize oo.set (st.os.length + 1) (itO "list_iterator" k (i + 1)) = o1 at *
        clear hb hit hee
        repeat' (first | tb_start | with_reducible first | refine ex_cons ?_ | refine ex_If ?_)
        refine spec_names (by lsm_bools) (path_ok hok).1 fun o2 j2 he2 hj2 hn2 => ?_
        rw [names_path hok] at hn2
        repeat' (first | tb_start | with_reducible first | refine ex_cons ?_ | refine ex_If ?_)
        refine call_lenL hn2 (by have := hok.1; simp; lsm_bools) ?_
        repeat' (first | tb_start | with_reducible first | refine ex_cons ?_ | refine ex_If ?_)
        refine ⟨by simp, ?_⟩
        rw [List.length_map]
        repeat' (first | tb_start | with_reducible first | refine ex_cons ?_ | refine ex_If ?_)
        refine hb_push (L := L) (by lsm_bools) ((hb1.ext he2).ext (Ext.app _ _)) (by lsm_bools) (fun a ha => hb1.fresh (j := o2.length) he2.len a ha) app_at fun l' g' hb' hp' => ?_
        repeat' (first | tb_start | with_reducible first | refine ex_cons ?_ | refine ex_If ?_)
        have hll1 : st.os.length < o1.length := (List.getElem?_eq_some_iff.mp hb1.1).1
        refine ⟨n - 1, by lsm_bools, i + 1, by lsm_bools, rfl, ((hee1.trans he2).snoc).set (Nat.le_refl _), by kct_strs, by kct_strs, set_get_ne (idx_app (he2 _ _ hit1)) (by lsm_bools), l', g', hb', ?_⟩
        rw [List.take_add_one, hLi]
        exact hp'.trans ((List.Perm.cons L hp).trans (List.perm_append_singleton L _).symm)
      · repeat' (first | tb_start | with_reducible first | refine ex_cons ?_ | refine ex_If ?_)
        have hi : i = Ls.length := by
          have : Ls.length ≤ i := by simpa using hnone
          lsm_bools
        refine ⟨rfl, rfl, hee.set (by lsm_bools), hln, hhp, l, g, ?_, ?_⟩
        · exact hb.set (by lsm_bools) fun t e => by rw [hit] at e; cases e
        rw [hi, List.take_length] at hp; exact hp
  · rintro ⟨mm, oo, gg⟩ ⟨rfl, hee, hln, hhp, l, g, hb, hp⟩
    dsimp only at hee hln hhp hb
    have hkh : st.os.length < oo.length := (List.getElem?_eq_some_iff.mp hb.1).1
    have hll : l.length = Ls.length := by have := hp.length_eq; rw [List.length_map] at this; exact this
    have hpos : 0 < Ls.length := List.length_pos_iff.mpr h0
    repeat' (first | tb_start | with_reducible first | refine ex_cons ?_ | refine ex_If ?_)
    refine ⟨by decide, ?_⟩
    repeat' (first | tb_start | with_reducible first | refine ex_cons ?_ | refine ex_If ?_)
    refine ex_J (FdC st oo Ls) ?_ ?_
    · refine ex_For (fun _ => rfl) (fun _ _ => rfl) ?_
      repeat' (first | tb_start | with_reducible first | refine ex_cons ?_ | refine ex_If ?_)
      refine call_lenL (idx_app (hee _ _ hk)) (by simp; lsm_bools) ?_
      repeat' (first | tb_start | with_reducible first | refine ex_cons ?_ | refine ex_If ?_)
      refine call_range1 ?_
      have hN : ((((Ls.map pathOf).map AV.str).length : Nat) : Int) - 1 = ((Ls.length - 1 : Nat) : Int) := by rw [List.length_map, List.length_map]; lsm_bools
      rw [hN]
      refine it_rangeN app_at (by lsm_bools) ?_
      dsimp only
      refine ⟨FdD st oo Ls, Ls.length - 1, ?_, ?_⟩
      · refine ⟨0, by lsm_bools, rfl, ((hee.snoc).snoc).snoc, by kct_strs, by kct_strs, by simp, l, g, [], ((hb.ext (Ext.app _ _)).ext (Ext.app _ _)).ext (Ext.app _ _), by simp, by simp, by simp, by simp, by lsm_bools, lcp_perm hp (by intro e; have := congrArg List.length e; simp at this; rw [this] at hll; simp at hll; lsm_bools), fun a ha => hL _ (hp.mem_iff.mp (List.mem_map_of_mem ha)), by simp⟩
      · rintro n ⟨mm2, o1, gg2⟩ ⟨i, hn, rfl, hee1, hhp1, hdp1, hit1, l1, g1, ds, hb1, hds, hso, hda, hdl, hl1, hlc, hok1, hle1⟩
        dsimp only at hee1 hhp1 hdp1 hit1 hb1 hds
        have hlen : (oo ++ [AO.list []] ++ [rangeO 0 ((Ls.length - 1 : Nat) : Int) 1]).length = oo.length + 2 := by simp
        rw [hlen]
        clear hee hln hhp hb hp
        refine nx_range hit1 (fun hlt => ?_) (fun hge => ?_)
        · refine as_Name (by rw [hs]; rfl) ?_
          have hb2 : HB (o1.set (oo.length + 2) (rgO ((i : Int) + 1) (((Ls.length - 1 : Nat) : Int) - (i : Int) - 1) 1)) st.os.length l1 g1 := hb1.set (by lsm_bools) fun t e => by rw [hit1] at e; cases e
          have hit2 := set_get (o' := rgO ((i : Int) + 1) (((Ls.length - 1 : Nat) : Int) - (i : Int) - 1) 1) hit1
          have hds2 := set_get_ne (o' := rgO ((i : Int) + 1) (((Ls.length - 1 : Nat) : Int) - (i : Int) - 1) 1) hds (show oo.length + 2 ≠ oo.length by lsm_bools)
          have hee2 : Ext st.os (o1.set (oo.length + 2) (rgO ((i : Int) + 1) (((Ls.length - 1 : Nat) : Int) - (i : Int) - 1) 1)) := hee1.set (by lsm_bools)
          dsimp only
          generalize o1.set (oo.length + 2) (rgO ((i : Int) + 1) (((Ls.length - 1 : Nat) : Int) - (i : Int) - 1) 1) = o2 at *
          clear hb1 hds hee1 hit1
          have hl1n : l1 ≠ [] := by intro e; subst e; simp at hl1; lsm_bools
          refine ex_cons ?_
          refine ex_AssignT2 rfl rfl (by rw [hs]; rfl) (by rw [hs]; rfl) ?_
          repeat' tb_start
          refine hb_pop (by lsm_bools) hb2 (by lsm_bools) hl1n fun j1 l2 hj1 hb3 hp3 hm3 => ?_
          have hj1' := set_get_ne (o' := .list l2) hj1 (show st.os.length ≠ j1 by intro e; subst e; rw [hb2.1] at hj1; cases hj1)
          have hit3 := set_get_ne (o' := .list l2) hit2 (show st.os.length ≠ oo.length + 2 by lsm_bools)
          have hds3 := set_get_ne (o' := .list l2) hds2 (show st.os.length ≠ oo.length by lsm_bools)
          have hee3 : Ext st.os (o2.set st.os.length (.list l2)) := hee2.set (Nat.le_refl _)
          refine ⟨j1, _, _, rfl, hj1', ?_⟩
          dsimp only
          generalize o2.set st.os.length (.list l2) = o3 at *
          clear hj1 hb2 hit2 hds2 hee2
          obtain ⟨y, t, rfl⟩ : ∃ y t, l2 = y :: t := by
            cases l2 with
            | nil => have := hp3.length_eq; simp at this; lsm_bools
            | cons y t => exact ⟨y, t, rfl⟩
          obtain ⟨hy, hmin⟩ := hb_head hb3
          obtain ⟨j2, rfl, hj2⟩ := hy
          have hL1 : okN (g1 (.obj j1)) := hok1 _ (hp3.mem_iff.mp (by simp))
          have hL2 : okN (g1 (.obj j2)) := hok1 _ (hp3.mem_iff.mp (by simp))
          generalize hG1 : g1 (.obj j1) = L1 at *
          generalize hG2 : g1 (.obj j2) = L2 at *
          have hsh : okN (lcpA [L1, L2]) := okN_lcp (by simp) hL1
          repeat' tb_start
          refine ex_cons ?_
          repeat' tb_start
          refine sub_list hb3.1 (fun _ _ => rfl) (by decide) (by decide) (a := .obj j2) rfl ?_
          repeat' tb_start
          refine sub_tup hj2 (fun _ _ => rfl) (by decide) (by decide) (a := .str (pathOf L2)) rfl ?_
          repeat' tb_start
          refine ⟨by simp, ?_⟩
          repeat' tb_start
          refine ex_cons ?_
          repeat' tb_start
          have hxs : ∀ x ∈ [pathOf L1, pathOf L2], okP x := by
            intro x hx
            simp at hx
            rcases hx with rfl | rfl
            · exact path_ok hL1
            · exact path_ok hL2
          have hmap : [pathOf L1, pathOf L2].map namesOf = [L1, L2] := by simp [names_path hL1, names_path hL2]
          refine spec_commonpath (xs := [pathOf L1, pathOf L2]) (by lsm_bools) app_at hxs (by simp) (by simp) fun o4 he4 => ?_
          rw [hmap]
          have hbo : o4[o3.length]? = some (.list ([pathOf L1, pathOf L2].map AV.str)) := he4 _ _ app_at
          have he4 := (Ext.app o3 [AO.list ([pathOf L1, pathOf L2].map AV.str)]).trans he4
          have hb4 := hb3.ext he4
          have hit4 := he4 _ _ hit3
          have hds4 := he4 _ _ hds3
          have hee4 := hee3.trans he4
          have hj24 := he4 _ _ hj2
          clear hb3 hit3 hds3 hee3 hj2 he4 hj1'
          repeat' tb_start
          refine ex_cons (ex_If ?_)
          repeat' tb_start
          refine spec_shared (xs := [pathOf L1, pathOf L2]) (by lsm_bools) hbo (fun x hx => ⟨(hxs x hx).1, (hxs x hx).2.1⟩) (by simp) (by simp) fun o5 he5 => ?_
          rw [hmap]
          have hb5 := hb4.ext he5
          have hit5 := he5 _ _ hit4
          have hds5 := he5 _ _ hds4
          have hee5 := hee4.trans he5
          have hj25 := he5 _ _ hj24
          clear hb4 hit4 hds4 hee4 hj24 he5 hbo
          repeat' tb_start
          refine br_false (by simp) ?_
          repeat' (first | tb_start | with_reducible first | refine ex_cons ?_ | refine ex_If ?_)
          rw [show Str.ofString "/" ++ Str.join (Str.ofString "/") (lcpA [L1, L2]) = pathOf (lcpA [L1, L2]) from rfl]
          refine getM_list hds5 PySem.F.slot_list_extend PySem.F.type_list_extend ?_
          repeat' (first | tb_start | with_reducible first | refine ex_cons ?_ | refine ex_If ?_)
          refine spec_names (by lsm_bools) (path_ok hsh).1 fun o6 j6 he6 hj6 hn6 => ?_
          rw [names_path hsh] at hn6
          have hb6 := hb5.ext he6
          have hf6 : ∀ a ∈ AV.obj j2 :: t, a ≠ .obj o6.length := fun a ha => hb5.fresh he6.len a ha
          have hit6 := he6 _ _ hit5
          have hds6 := he6 _ _ hds5
          have hee6 := hee5.trans he6
          have hj26 := he6 _ _ hj25
          clear hb5 hit5 hds5 hee5 hj25 he6
          repeat' (first | tb_start | with_reducible first | refine ex_cons ?_ | refine ex_If ?_)
          refine call_lenL hn6 (by have := hsh.1; simp; lsm_bools) ?_
          rw [List.length_map]
          repeat' (first | tb_start | with_reducible first | refine ex_cons ?_ | refine ex_If ?_)
          refine ⟨by simp, ?_⟩
          repeat' (first | tb_start | with_reducible first | refine ex_cons ?_ | refine ex_If ?_)
          have hl2l : t.length + 2 = l1.length := by have := hp3.length_eq; simp at this; lsm_bools
          refine hb_replace (L := lcpA [L1, L2]) (by lsm_bools) (hb6.ext (Ext.app _ _)) (by lsm_bools) hf6 app_at fun l7 g7 hb7 hp7 => ?_
          have hT : (o6 ++ [AO.tup [.int (-((lcpA [L1, L2]).length : Int)), .str (pathOf (lcpA [L1, L2]))]])[o6.length]? = some (.tup [.int (-((lcpA [L1, L2]).length : Int)), .str (pathOf (lcpA [L1, L2]))]) := app_at
          have hit7 := set_get_ne (o' := .list l7) (idx_app (ρ' := [AO.tup [.int (-((lcpA [L1, L2]).length : Int)), .str (pathOf (lcpA [L1, L2]))]]) hit6) (show st.os.length ≠ oo.length + 2 by lsm_bools)
          have hds7 := set_get_ne (o' := .list l7) (idx_app (ρ' := [AO.tup [.int (-((lcpA [L1, L2]).length : Int)), .str (pathOf (lcpA [L1, L2]))]]) hds6) (show st.os.length ≠ oo.length by lsm_bools)
          have hj27 := set_get_ne (o' := .list l7) (idx_app (ρ' := [AO.tup [.int (-((lcpA [L1, L2]).length : Int)), .str (pathOf (lcpA [L1, L2]))]]) hj26) (show st.os.length ≠ j2 by intro e; subst e; rw [hb6.1] at hj26; cases hj26)
          have hee7 : Ext st.os ((o6 ++ [AO.tup [.int (-((lcpA [L1, L2]).length : Int)), .str (pathOf (lcpA [L1, L2]))]]).set st.os.length (.list l7)) := (hee6.snoc).set (Nat.le_refl _)
          dsimp only at hb7 ⊢
          generalize (o6 ++ [AO.tup [.int (-((lcpA [L1, L2]).length : Int)), .str (pathOf (lcpA [L1, L2]))]]).set st.os.length (.list l7) = o7 at *
          clear hb6 hit6 hds6 hee6 hj26 hT
          repeat' (first | tb_start | with_reducible first | refine ex_cons ?_ | refine ex_If ?_)
          refine sub_tup hj27 (fun _ _ => rfl) (by decide) (by decide) (a := .int (-(L2.length : Int))) rfl ?_
          repeat' (first | tb_start | with_reducible first | refine ex_cons ?_ | refine ex_If ?_)
          refine ⟨by simp, ?_⟩
          repeat' (first | tb_start | with_reducible first | refine ex_cons ?_ | refine ex_If ?_)
          have hl7 : l7.length = t.length + 1 := by have := hp7.length_eq; simp at this; lsm_bools
          refine call_extendL (idx_app hds7) app_at (by simp; lsm_bools) (show o7.length ≠ oo.length by have := (List.getElem?_eq_some_iff.mp hds7).1; lsm_bools) (by simp) ?_
          repeat' (first | tb_start | with_reducible first | refine ex_cons ?_ | refine ex_If ?_)
          have e2 : (i : Int) + 1 = ((i + 1 : Nat) : Int) := by push_cast; rfl
          have e3 : ((Ls.length - 1 : Nat) : Int) - (i : Int) - 1 = ((Ls.length - 1 : Nat) : Int) - ((i + 1 : Nat) : Int) := by push_cast; lsm_bools
          have hL2len := lcp_len2 (L1 := L1) (L2 := L2)
          have hm1 : ∀ a ∈ t, (g1 a).length ≤ L2.length := fun a ha => by have := hmin a (by simp [ha]); lsm_bools
          have hd1 : ∀ d ∈ ds, d ≤ -(L1.length : Int) := fun d hd => by have := hle1 (.obj j1) (hp3.mem_iff.mp (by simp)) d hd; rw [hG1] at this; exact this
          have h12 : (L2.length : Int) ≤ L1.length := by have := hm3 (.obj j2) (hp3.mem_iff.mp (by simp)); rw [hG2] at this; lsm_bools
          have hmem7 : ∀ a ∈ l7, g7 a = lcpA [L1, L2] ∨ ∃ b ∈ t, g7 a = g1 b := fun a ha => by
            have := hp7.mem_iff.mp (List.mem_map_of_mem ha)
            rcases List.mem_cons.mp this with e | e
            · exact .inl e
            · obtain ⟨b, hb, e⟩ := List.mem_map.mp e; exact .inr ⟨b, hb, e.symm⟩
          refine ⟨n - 1, by lsm_bools, i + 1, by lsm_bools, rfl, (hee7.snoc).set (by lsm_bools), by kct_strs, by kct_strs, ?_, l7, g7, ds ++ [-(L1.length : Int), -(L2.length : Int)], ?_, ?_, ?_, ?_, ?_, by lsm_bools, ?_, ?_, ?_⟩
          · rw [← e3, ← e2]; exact set_get_ne (idx_app hit7) (by lsm_bools)
          · exact (hb7.ext (Ext.app _ _)).set (by lsm_bools) fun t e => by rw [idx_app hds7] at e; cases e
          · rw [List.map_append]; exact set_get (idx_app hds7)
          · rw [List.pairwise_append]
            refine ⟨hso, by simp; lsm_bools, fun a ha b hb => ?_⟩
            have := hd1 a ha
            simp at hb
            rcases hb with rfl | rfl <;> lsm_bools
          · intro d hd
            rcases List.mem_append.mp hd with hd | hd
            · exact hda d hd
            · have := hL1.1; have := hL2.1
              simp at hd
              rcases hd with rfl | rfl <;> lsm_bools
          · simp; lsm_bools
          · rw [← hlc, lcp_perm hp7 (by intro e; have := congrArg List.length e; simp at this; rw [this] at hl7; simp at hl7), lcp_fold]
            have := (hp3.map g1)
            rw [List.map_cons, List.map_cons, hG1, hG2] at this
            exact lcp_perm this (by simp)
          · intro a ha
            rcases hmem7 a ha with e | ⟨b, hb, e⟩
            · rw [e]; exact hsh
            · rw [e]; exact hok1 b (hp3.mem_iff.mp (by simp [hb]))
          · intro a ha d hd
            have hga : ((g7 a).length : Int) ≤ L2.length := by
              rcases hmem7 a ha with e | ⟨b, hb, e⟩
              · rw [e]; lsm_bools
              · rw [e]; have := hm1 b hb; lsm_bools
            rcases List.mem_append.mp hd with hd | hd
            · have := hd1 d hd; lsm_bools
            · simp at hd
              rcases hd with rfl | rfl <;> lsm_bools
        · repeat' (first | tb_start | with_reducible first | refine ex_cons ?_ | refine ex_If ?_)
          exact ⟨rfl, rfl, hee1, hhp1, hdp1, l1, g1, ds, hb1, hds, hso, hda, by lsm_bools, by lsm_bools, hlc⟩
    · rintro ⟨mm2, o1, gg2⟩ ⟨rfl, hee1, hhp1, hdp1, l1, g1, ds, hb1, hds, hso, hda, hdl, hl1, hlc⟩
      dsimp only at hee1 hhp1 hdp1 hb1 hds
      obtain ⟨y, rfl⟩ : ∃ y, l1 = [y] := by
        cases l1 with
        | nil => simp at hl1
        | cons y t => cases t with
          | nil => exact ⟨y, rfl⟩
          | cons z t => simp at hl1
      obtain ⟨⟨j1, rfl, hj1⟩, _⟩ := hb_head hb1
      repeat' (first | tb_start | with_reducible first | refine ex_cons ?_ | refine ex_If ?_)
      refine call_lenL hb1.1 (by simp) ?_
      repeat' (first | tb_start | with_reducible first | refine ex_cons ?_ | refine ex_If ?_)
      refine br_true' (by simp) ?_
      refine tt_And ?_
      repeat' (first | tb_start | with_reducible first | refine ex_cons ?_ | refine ex_If ?_)
      refine call_sortedI hds (by lsm_bools) fun o2 j2 ys he2 hp2 hs2 hj2 => ?_
      have hys := sorted_uniq hp2 hs2 hso
      subst hys
      repeat' (first | tb_start | with_reducible first | refine ex_cons ?_ | refine ex_If ?_)
      refine op_eqI (he2 _ _ hds) hj2 (fun x hx => by have := hda x hx; lsm_bools) (fun x hx => by have := hda x hx; lsm_bools) (by lsm_bools) (by lsm_bools) ?_
      refine ⟨_, rfl, ?_⟩
      refine br_true' (by simp) ?_
      refine tt_And0 ?_
      repeat' (first | tb_start | with_reducible first | refine ex_cons ?_ | refine ex_If ?_)
      refine sub_list (he2 _ _ hb1.1) (fun _ _ => rfl) (by decide) (by decide) (a := .obj j1) rfl ?_
      repeat' (first | tb_start | with_reducible first | refine ex_cons ?_ | refine ex_If ?_)
      refine sub_tup (he2 _ _ hj1) (fun _ _ => rfl) (by decide) (by decide) (a := .str (pathOf (g1 (.obj j1)))) rfl ?_
      repeat' (first | tb_start | with_reducible first | refine ex_cons ?_ | refine ex_If ?_)
      have hfin := h o2 (hee1.trans he2)
      rw [← hlc] at hfin
      exact hfin
-- WH
/-- a call, as the machine makes it, names among its arguments -/
noncomputable def CodeV (W : Wd) (c : Cx) (st : St) (f : Value) (as : List AV) (kw : List (Str × AV)) (Q : AV → St → Prop) : Prop :=
  ∀ (ρ : List Addr) (s : Shared) (R : Result → Shared → Prop) (vs : List Value) (ks : List (Str × Value)), Rp W c ρ st s → VRel ρ as vs → MRel ρ kw ks →
    (∀ ρ' a v st' s', Rp W c (ρ ++ ρ') st' s' → AV.rel (ρ ++ ρ') a v → Q a st' → R (.ok (.ret v)) s') → codeAny W.M c.A (.call f ⟨vs, ks⟩) R s
noncomputable def CallK (W : Wd) (c : Cx) (st : St) (f : Value) (as : List AV) (kw : List (Str × AV)) (Q : AV → St → Prop) : Prop :=
  ∀ (ρ : List Addr) (s : Shared) (E : Value → Shared → Prop) (vs : List Value) (ks : List (Str × Value)), Rp W c ρ st s → VRel ρ as vs → MRel ρ kw ks →
    wpAny W.M c.A (call f vs ks) (Post W c VR ρ Q) E s
section
variable {W : Wd} {c : Cx} {st : St}
theorem CodeV.callK {f : Value} {as : List AV} {kw : List (Str × AV)} {Q : AV → St → Prop} (h : CodeV W c st f as kw Q) : CallK W c st f as kw Q := fun ρ s E vs ks r hv hk =>
  wpAny_call (h ρ s _ vs ks r hv hk fun ρ' a v st' s' r' ha hq => ⟨ρ', a, st', r', ha, hq⟩)
theorem CodeV.call {f : Value} {as : List AV} {Q : AV → St → Prop} (h : CodeV W c st f as [] Q) : CallV W c st f as Q := fun ρ s E vs r hv => h.callK ρ s E vs [] r hv rfl
theorem CodeV.mono {f : Value} {as : List AV} {kw : List (Str × AV)} {Q Q' : AV → St → Prop} (h : CodeV W c st f as kw Q) (hq : ∀ a st, Q a st → Q' a st) : CodeV W c st f as kw Q' := fun ρ s R vs ks r hv hk k =>
  h ρ s R vs ks r hv hk fun ρ' a v st' s' r' ha q => k ρ' a v st' s' r' ha (hq _ _ q)
noncomputable def BindV (W : Wd) (c : Cx) (st : St) (fd : FuncData) (as : List AV) (kw : List (Str × AV)) (m0 : List (Str × AV)) (news : List AO) : Prop :=
  ∀ (ρ : List Addr) (s : Shared) (A : Around) (E : Value → Shared → Prop) (Qb : List (Str × Value) → Shared → Prop) (vs : List Value) (ks : List (Str × Value)), Rp W c ρ st s → VRel ρ as vs → MRel ρ kw ks →
    (∀ ρ' binds s', Rp W c (ρ ++ ρ') { st with os := st.os ++ news } s' → MRel (ρ ++ ρ') m0 binds → Qb binds s') → wpAny W.M A (bindArgs fd ⟨vs, ks⟩) Qb E s
theorem BindV.of {fd : FuncData} {as : List AV} {kw m0 : List (Str × AV)} (h : ∀ ρ s vs ks, W.K.In s.heap → VRel ρ as vs → MRel ρ kw ks → ∃ binds, BindsTo s fd ⟨vs, ks⟩ binds ∧ MRel ρ m0 binds) : BindV W c st fd as kw m0 [] :=
  fun ρ s A E Qb vs ks r hv hk k => by
    obtain ⟨binds, h1, h2⟩ := h ρ s vs ks r.X hv hk
    exact h1 _ A E Qb (k [] binds s (by rw [List.append_nil, List.append_nil]; exact r) (by rw [List.append_nil]; exact h2))
theorem code_fn {f : Addr} {as : List AV} {kw m0 : List (Str × AV)} {news : List AO} {Q : AV → St → Prop} {name qual : Str} {params : Arguments} {body : List Stmt} {scope : Scope} {dV kV doc pm cdv ct oc : Value} {an od : Option Addr} {osl : Array (Option Value)}
    (ho : W.K.lookup f = some ⟨oc, od, .func (fnOf name qual params body scope dV kV doc pm an cdv ct), osl⟩) (hcd : codeIn W.K cdv qual = true) (hroom : 1 ≤ c.room)
    (hb : BindV W c st (fnOf name qual params body scope dV kV doc pm an cdv ct) as kw m0 news)
    (hm : (m0.map (·.1)).Nodup) (hloc : ∀ y ∈ m0.map (·.1), scope.names.lookup y = some .local)
    (hco : scope.isCoroutine = false) (hgen : scope.isGenerator = false) (hk : scope.kind = .function) (hcell : ∀ x ∈ scope.names, x.2 ≠ .cell)
    (h : ∀ c' : Cx, c'.scope = scope → c'.cl = [] → c'.room + 1 = c.room → Ex W c' { m := m0, os := st.os ++ news, gn := st.gn } (execs body c'.env)
      (RetQ st.m Q)) :
    CodeV W c st (.ref f) as kw Q := fun ρ s R vs ks r hv hkw hR => by
  obtain ⟨mg, mb, T⟩ := r.ok.T
  refine codeAny_call_function (fd := fnOf name qual params body scope dV kV doc pm an cdv ct) (body := body) (by have := r.ok.dep; lsm_bools) (r.X _ _ ho) rfl hco hgen rfl (codeRec_of r.X hcd) ?_
  refine hb ρ s _ _ _ vs ks r hv hkw fun ρ1 binds s1 r1 hbr => ?_
  have hloc' : ∀ x ∈ binds, scope.names.lookup x.1 = some .local := fun x hx => hloc x.1 (by rw [← hbr.keys]; exact List.mem_map_of_mem hx)
  refine wpAny_newFunctionEnv hcell hloc' (fun h₀ hns hsb₀ => ?_) hk
  have hk₁ : ∀ b o, s1.heap.get? b = some o → h₀.get? b = some o := fun b o e => hsb₀.extBut b o (Nat.ne_of_lt (Heap.lt_size e)) (Heap.get?_push_of_some _ e)
  refine ⟨(T.nolimit.keeps r1.keep).fresh _ hsb₀, codeAny_func ?_⟩
  let c' : Cx := { A := c.A.deeper (callEnv (fnOf name qual params body scope dV kV doc pm an cdv ct) s1.heap.objs.size f), g := hideAll s1.heap (ρ ++ ρ1), room := c.room - 1, L := s1.heap.objs.size, scope := scope, cells := [], qual := qual ++ ".<locals>.", func := some f, code := cdv, frame := some s1.heap.objs.size, cl := [], os0 := c.os0 }
  have hn : (binds.map (·.1)).Nodup := by rw [hbr.keys]; exact hm
  have r' : Rp W c' (ρ ++ ρ1) { m := m0, os := st.os ++ news, gn := st.gn } { s1 with heap := h₀, toks := s1.toks + binds.length } := by
    refine ⟨r1.ok.enter (A := c'.A) (env := callEnv (fnOf name qual params body scope dV kV doc pm an cdv ct) s1.heap.objs.size f) r1 hroom rfl hk rfl rfl (by show c.room - 1 + 1 = c.room; lsm_bools), ⟨_, hns, fun x a e => ?_⟩, fun b o e => hk₁ b o (of_hideAll _ e), Nat.le_of_eq (hideAll_size _ _), ⟨r1.objs.len, fun k o e => ?_⟩, fun a ha => ⟨Nat.ne_of_lt (r1.lt ha), hideAll_none _ ha⟩, r1.nodup, fun x k e => (by cases e), r1.gens, r1.os⟩
    · obtain ⟨v, e1, e2⟩ := hbr.get e
      exact ⟨v, by rw [lookup_nodup_rev hn]; exact e1, e2⟩
    · obtain ⟨a, ob, e1, e2, e3⟩ := r1.objs.at_ k o e
      exact ⟨a, ob, e1, hk₁ _ _ e2, e3⟩
  refine wpAny_mono (h c' rfl rfl (by show c.room - 1 + 1 = c.room; lsm_bools) (ρ ++ ρ1) _ _ r') (fun fl s' p => ?_) fun _ _ x => x
  obtain ⟨ρ', fa, st', r2, hf, hq⟩ := p
  have rb := r1.leave r2 rfl rfl
  rw [List.append_assoc] at rb hf
  cases fa with
  | next => cases hf; exact hR _ .none .none _ _ rb rfl hq
  | ret a => obtain ⟨u, e, hu⟩ := hf; subst e; exact hR _ _ _ _ _ rb hu hq
  | brk => exact hq.elim
  | cont => exact hq.elim
end
-- WI
section
open Builtin Builtin.ObjectAttr
/-! the names of an object -/
theorem str_isStr {x y : Str} {t : Tok} : (Value.str x t).isStr y = (x == y) := by
  cases h : x == y with
  | true => have := eq_of_beq h; subst this; simp [Value.isStr]
  | false => simp only [beq_eq_false_iff_ne, ne_eq] at h; simp [Value.isStr, h]
theorem ERel.get {P : Params} {ρ : List Addr} {name : Str} {l : List (Str × AV)} {es : List DictEntry} (h : ERel P ρ l es) : match l.lookup name with
    | some a => ∃ v, getL name es = some (some v) ∧ a.rel ρ v
    | none => getL name es = some none := by
  induction l generalizing es with
  | nil => cases h; rfl
  | cons p r ih =>
    obtain ⟨x, a⟩ := p
    obtain ⟨t, v, es', rfl, h, q⟩ := h
    replace ih := ih q
    by_cases hx : name = x
    · subst hx
      rw [List.lookup_cons, beq_self_eq_true]
      refine ⟨v, ?_, h⟩
      unfold getL
      rw [List.find?_cons_of_pos (by rw [str_isStr]; simp)]
    · have e1 : (name == x) = false := by simpa using hx
      have e2 : (x == name) = false := by simpa using fun e : x = name => hx e.symm
      have e3 : getL name (⟨PyData.keyHash P x, .str x t, v⟩ :: es') = getL name es' := by
        unfold getL
        rw [List.find?_cons_of_neg (by rw [str_isStr, e2]; simp)]
        cases es'.find? (·.key.isStr name) with
        | some e => rfl
        | none =>
          rw [List.any_cons]
          rfl
      rw [List.lookup_cons, e1]
      dsimp only
      cases q2 : r.lookup name with
      | some b => rw [q2] at ih; obtain ⟨v2, i1, i2⟩ := ih; exact ⟨v2, e3.trans i1, i2⟩
      | none => rw [q2] at ih; exact e3.trans ih
theorem ERel.put {P : Params} {ρ : List Addr} {name : Str} {a : AV} {v : Value} {t : Tok} (hv : a.rel ρ v) {l : List (Str × AV)} {es : List DictEntry} (h : ERel P ρ l es) : ERel P ρ (putM name a l) (putL name (PyData.keyHash P name) (.str name t) v es) := by
  induction l generalizing es with
  | nil => cases h; exact ⟨t, v, [], rfl, hv, rfl⟩
  | cons p r ih =>
    obtain ⟨x, b⟩ := p
    obtain ⟨t', u, es', rfl, h, q⟩ := h
    by_cases hx : name = x
    · subst hx
      simp only [putM, beq_self_eq_true, if_true, putL, str_isStr]
      exact ⟨t', v, es', rfl, hv, q⟩
    · have e1 : (name == x) = false := by simpa using hx
      have e2 : (x == name) = false := by simpa using fun e : x = name => hx e.symm
      simp only [putM, e1, putL, str_isStr, e2, Bool.false_eq_true, if_false]
      exact ⟨t', u, _, rfl, h, ih q⟩
theorem ERel.length {P : Params} {ρ : List Addr} {l : List (Str × AV)} {es : List DictEntry} (h : ERel P ρ l es) : es.length = l.length := by
  induction l generalizing es with
  | nil => cases h; rfl
  | cons p r ih => obtain ⟨t, v, es', rfl, h, q⟩ := h; exact congrArg (· + 1) (ih q)
noncomputable def AV.hand : AV → Bool
  | .fix v => handedIn v
  | _ => true
theorem AV.hand_rel {ρ : List Addr} {a : AV} {v : Value} (h : a.hand = true) (r : a.rel ρ v) : handedIn v = true := by
  cases a with
  | none => cases (show v = .none from r); rfl
  | bool b => cases (show v = .bool b from r); rfl
  | int i => obtain ⟨t, e⟩ := r; subst e; rfl
  | str x => obtain ⟨t, e⟩ := r; subst e; rfl
  | obj k => obtain ⟨x, _, e⟩ := r; subst e; rfl
  | fix w => cases (show v = w from r); exact h
section
variable {W : Wd} {c : Cx} {ρ : List Addr} {st : St} {s : Shared}
inductive InstR (W : Wd) (ρ : List Addr) (s : Shared) (k d : Nat) (C : Addr) (l : List (Str × AV)) (v : Value) : Prop
  | mk (a dx : Addr) (es : List DictEntry) (n : Nat) (e : v = .ref a) (h1 : ρ[k]? = some a) (h2 : ρ[d]? = some dx) (h3 : s.heap.get? dx = some (dictOf es n)) (h4 : InstAt s.heap a (instObj C dx) C (some (dictOf es n))) (h5 : ERel W.w.params ρ l es)
theorem Rp.inst (r : Rp W c ρ st s) {k d : Nat} {C : Addr} {l : List (Str × AV)} {v : Value} (hk : st.os[k]? = some (.inst C d)) (hd : st.os[d]? = some (.dict l)) (hv : AV.rel ρ (.obj k) v) :
    InstR W ρ s k d C l v := by
  obtain ⟨a, ob, e, h1, h2, dx, h3, h4⟩ := r.at_ hk hv
  obtain ⟨dx', ob', e', g1, g2, es, n, g3, g4⟩ := r.at_ hd (v := .ref dx) ⟨dx, h3, rfl⟩
  cases e'; subst h4; subst g3
  exact ⟨a, dx, es, n, e, h1, h3, g2, ⟨h2, rfl, rfl, g2⟩, g4⟩
end
noncomputable def GetA (W : Wd) (c : Cx) (st : St) (oa : AV) (name : Str) (Q : AV → St → Prop) : Prop := Op1 W c VR st oa (fun v => getAttr v name true) Q
noncomputable def SetA (W : Wd) (c : Cx) (st : St) (oa : AV) (name : Str) (a : AV) (Q : St → Prop) : Prop := Op2 W c UR st oa a (fun v u => setAttr v name u) (fun _ st => Q st)
section
variable {W : Wd} {c : Cx} {st : St}
theorem ga_own {k d : Nat} {C : Addr} {l : List (Str × AV)} {a : AV} {attr : Option Value} {name : Str} {Q : AV → St → Prop} (hk : st.os[k]? = some (.inst C d)) (hd : st.os[d]? = some (.dict l)) (hg : plainGet W.K C name = true) (hh : hasDictIn W.K C = true)
    (ha : findIn W.K (.ref C) name = some attr) (hn : noGet W.K attr = true) (hl : l.lookup name = some a) (hv : a.hand = true) (h : Q a st) : GetA W c st (.obj k) name Q := fun ρ s E v r hv' => by
  obtain ⟨x, dx, es, n, e, e1, e2, e3, I, hes⟩ := r.inst hk hd hv'
  subst e
  have := hes.get (name := name)
  rw [hl] at this
  obtain ⟨u, g1, g2⟩ := this
  exact get_value r.X I (plainGet_of hg).1 (findObj_own hh ha hn g1) (AV.hand_rel hv g2) (Post.here h (r.toks _) g2)
theorem ga_prop {k d : Nat} {C p fget : Addr} {l : List (Str × AV)} {rest : List Value} {name : Str} {Q : AV → St → Prop} (hk : st.os[k]? = some (.inst C d)) (hd : st.os[d]? = some (.dict l)) (hg : plainGet W.K C name = true) (hh : hasDictIn W.K C = true)
    (ha : findIn W.K (.ref C) name = some (some (.ref p))) (hn : specialIn W.K (.ref p) "__get__" = some (some (.builtin "property.__get__"))) (ht : takesIn W.K (.ref p) = some true) (hp : recIn W.K p "property" = some (.ref fget :: rest)) (hr : 1 ≤ c.room)
    (h : CodeV W c.inn st (.ref fget) [.obj k] [] (fun a st => a.hand = true ∧ Q a st)) : GetA W c st (.obj k) name Q := fun ρ s E v r hv' => by
  obtain ⟨x, dx, es, n, e, e1, e2, e3, I, hes⟩ := r.inst hk hd hv'
  subst e
  refine get_bind r.X I (plainGet_of hg).1 (findObj_data (by obtain ⟨cd, hc, _⟩ := any_some hh; rw [hc]; rfl) ha hn ht) (plainGet_of hg).2 (wpAny_call (prop_get (s := { s with toks := s.toks + 1 }) r.X hp ?_))
  refine h ρ _ _ [.ref x] [] ((r.toks _).inn hr) ⟨_, [], rfl, hv', rfl⟩ rfl fun ρ' a v st' s' r' ha' hq => ?_
  show wpAny _ _ (handedOut v) _ _ _
  rw [handedOut_of (AV.hand_rel hq.1 ha')]
  exact wpAny_pure ⟨ρ', a, st', r'.out r.ok, ha', hq.2⟩
theorem getM_inst {k d : Nat} {C f : Addr} {l : List (Str × AV)} {name : Str} {Q : Value → List AV → St → Prop} (hk : st.os[k]? = some (.inst C d)) (hd : st.os[d]? = some (.dict l)) (hg : plainGet W.K C name = true)
    (hf : findIn W.K (.ref C) name = some (some (.ref f))) (ht : isFn W.K (.ref f) = true) (hl : l.lookup name = none) (hkeep : KeepOk W (.ref f)) (h : Q (.ref f) [.obj k] st) : GetM W c st (.obj k) name Q := fun ρ s E v pl r hv' => by
  obtain ⟨x, dx, es, n, e, e1, e2, e3, I, hes⟩ := r.inst hk hd hv'
  subst e
  have := hes.get (name := name)
  rw [hl] at this
  refine method_fn r.X I (plainGet_of hg).1 (plainGet_of hg).2 hf (beq_iff_eq.mp ht) (by show (lookIn name (dictOf es n)).map _ = _; rw [lookIn_dict, this]; rfl) ?_
  exact ⟨[.obj k], st, ⟨_, [], rfl, hv', rfl⟩, r, hkeep, h⟩
theorem sa_own {k d : Nat} {C : Addr} {l : List (Str × AV)} {a : AV} {name : Str} {Q : St → Prop} (hk : st.os[k]? = some (.inst C d)) (hd : st.os[d]? = some (.dict l)) (hs : findIn W.K (.ref C) "__setattr__" = some (some (.builtin "object.__setattr__")))
    (hp : plainOver W.K C = true) (ht : takerIn W.K C name = some none) (hh : hasDictIn W.K C = true) (hz : l.length ≤ 100) (h : Q { st with os := st.os.set d (.dict (putM name a l)) }) : SetA W c st (.obj k) name a Q := fun ρ s E v u r hv' hu => by
  obtain ⟨x, dx, es, n, e, e1, e2, e3, I, hes⟩ := r.inst hk hd hv'
  subst e
  obtain ⟨cd, hc, hd'⟩ := any_some hh
  have hx := I.at_
  refine set_plain r.X I hs (osa_open (s := { s with toks := s.toks + 1 }) r.X I hp ht fun b => ?_)
  refine wpAny_bind (wpAny_pure (wpAny_bind (wpAny_bind (wpAny_loadPart hx (wpAny_bind (Looks.here (s := { s with toks := s.toks + 1 }) (looks_clsIn r.X hc) ?_))))))
  rw [hd']
  refine wpAny_pure (a := some dx) (wpAny_bind (wpAny_pure (wpAny_bind ?_)))
  unfold nsSet
  refine wpAny_bind (wpAny_bind (wpAny_askSetting (wpAny_pure (wpAny_bind (wpAny_mkText (wpAny_bind (wpAny_loadPart e3 ?_)))))))
  have hlen := hes.length
  have cc : aRefKeyMayBeTheName name es.toArray = false := by
    rw [aRefKeyMayBeTheName_at]
    have hnr : ∀ {l : List (Str × AV)} {es : List DictEntry}, ERel W.w.params ρ l es → es.any (·.refKey) = false := by
      intro l
      induction l with
      | nil => intro es h; cases h; rfl
      | cons p r ih =>
        obtain ⟨x, a⟩ := p
        rintro es ⟨t, v, es', e, _, q⟩
        subst e
        rw [List.any_cons, ih q]; rfl
    rw [← Array.any_toList, ← Array.any_toList]
    show (_ && es.any (·.refKey)) = false
    rw [hnr hes, Bool.and_false]
  dsimp only
  rw [cc]
  simp only [Bool.false_eq_true, if_false]
  refine wpAny_updatePart e3 ?_
  have hput := putName_dict name (PyData.keyHash W.w.params name) (.str name (s.toks + 1)) u es n
  have D' : (s.heap.update dx (Obj.putName name (PyData.keyHash W.w.params name) (.str name (s.toks + 1)) u)).get? dx = some (dictOf (putL name (PyData.keyHash W.w.params name) (.str name (s.toks + 1)) u es) (putN name es n)) := by
    rw [← hput]; exact Heap.get?_update_self _ e3 (by rw [hput]; rfl)
  have hes' := ERel.put (t := s.toks + 1) (name := name) hu hes
  have hlen' := hes'.length
  have hz' := putM_len name a l
  refine wpAny_bind (wpAny_lookBehind D' (pastItsLine_dict (by rw [List.size_toArray, sizeLine_eq]; lsm_bools)) ?_)
  refine wpAny_pure ?_
  exact ⟨[], (), _, by rw [List.append_nil]; exact r.change (n := s.toks + 1 + 1) (o' := .dict (putM name a l)) e2 (Heap.SameBut.update ..) D' ⟨_, _, rfl, hes'⟩, trivial, h⟩
/-! syntax -/
theorem ev_Attr {value : Expr} {attr : Str} {pos : Pos} {Q : AV → St → Prop}
    (he : eval (.Attribute value attr pos) c.env = (do
      let o ← eval value c.env
      standAt pos.atName
      let r ← holding [o] (getAttr o attr true)
      letTemporaryGo value o r
      pure r))
    (h : Ev W c st (eval value c.env) (fun oa st1 => GetA W c st1 oa attr Q)) : Ev W c st (eval (.Attribute value attr pos) c.env) Q := fun ρ s E r =>
  Attribute_any_ (wp_on h r fun ρ' a st1 v s1 r1 ra h1 => wp_go1 h1 r1 ra) he
theorem ex_AssignA {o value : Expr} {attr : Str} {pos' pos : Pos} {Q : AF → St → Prop} (hs : swapsWith value (some (.Attribute o attr pos')) pos.line c.env = pure false)
    (h : Ev W c st (eval value c.env) (fun a st1 => Ev W c st1 (eval o c.env) (fun oa st2 => SetA W c st2 oa attr a (fun st3 => Q .next st3)))) : Ex W c st (exec (.Assign [.Attribute o attr pos'] value pos) c.env) Q := fun ρ s E r => by
  refine plainObj_wpAny_Assign_Attribute (wp_on h r fun ρ1 a st1 v s1 r1 ra h1 => wp_on h1 r1 fun ρ2 oa st2 ov s2 r2 ro h2 => ?_) hs
  rw [List.append_assoc] at r2 ro
  refine wpAny_mono (wp_go2 (ρ := ρ) (E := E) h2 r2 ro (by rw [← List.append_assoc]; exact AV.rel.mono ra)) (fun _ s3 p => ?_) fun _ _ x => x
  obtain ⟨ρ3, _, st3, r3, _, hq⟩ := p
  exact ⟨ρ3, .next, st3, r3, rfl, hq⟩
theorem ex_AugA {o value : Expr} {attr : Str} {tpos pos : Pos} {op : Operator} {Q : AF → St → Prop}
    (h : Ev W c st (eval o c.env) (fun oa st1 => GetA W c st1 oa attr (fun old st2 => Ev W c st2 (eval value c.env) (fun b st3 => Op2 W c VR st3 old b (inplaceOp op) (fun new st4 => SetA W c st4 oa attr new (fun st5 => Q .next st5)))))) :
    Ex W c st (exec (.AugAssign (.Attribute o attr tpos) op value pos) c.env) Q := fun ρ s E r => by
  refine wpAny_AugAssign_AttributeAny (wp_on h r fun ρ1 oa st1 ov s1 r1 ro h1 => ?_)
  refine wpAny_mono (h1 _ s1 E ov r1 ro) (fun old s2 p => ?_) fun _ _ x => x
  obtain ⟨ρ2, olda, st2, r2, rold, h2⟩ := p
  refine wp_on h2 r2 fun ρ3 b st3 bv s3 r3 rb h3 => ?_
  refine wpAny_mono (h3 _ s3 E old bv r3 rold.mono rb) (fun new s4 p => ?_) fun _ _ x => x
  obtain ⟨ρ4, na, st4, r4, rn, h4⟩ := p
  refine wpAny_mono (h4 _ s4 E ov new r4 ro.mono.mono.mono rn) (fun _ s5 p => ?_) fun _ _ x => x
  obtain ⟨ρ5, _, st5, r5, _, hq⟩ := p
  simp only [List.append_assoc] at r5
  exact ⟨_, .next, st5, r5, rfl, hq⟩
end
end
-- WJ
section
open Builtin Builtin.ObjectAttr
theorem tc_weight (C : Addr) (rest : List Value) (kw : List (Str × Value)) : (Code.builtin "type.__call__" ⟨.ref C :: rest, kw⟩).weight = 1 := by kernel_rfl
theorem tc_units (C : Addr) (rest : List Value) (kw : List (Str × Value)) : (Code.builtin "type.__call__" ⟨.ref C :: rest, kw⟩).cUnits ≤ 20 := by
  have : (Code.builtin "type.__call__" ⟨.ref C :: rest, kw⟩).cUnits = 1 := by kernel_rfl
  lsm_bools
noncomputable def Cx.tc (c : Cx) (k : Code) : Cx := { c with A := c.A.under k, room := c.room - 1 }
theorem Rp.tc {W : Wd} {c : Cx} {ρ : List Addr} {st : St} {s : Shared} (r : Rp W c ρ st s) (hr : 1 ≤ c.room) (k : Code) (h1 : k.weight = 1) (h2 : k.cUnits ≤ 20) : Rp W (c.tc k) ρ st s :=
  ⟨⟨r.ok.X, r.ok.T, r.ok.kind, by have := r.ok.dep; show c.A.depth + k.weight + (c.room - 1) < _; lsm_bools, by have := r.ok.un; show c.A.units + k.cUnits + 20 * (c.room - 1) + 100 < _; lsm_bools, r.ok.hd⟩, r.ns, r.keep, r.above, r.objs, r.fresh, r.nodup, r.cells, r.gens, r.os⟩
theorem Rp.untc {W : Wd} {c : Cx} {ρ : List Addr} {st : St} {s : Shared} {k : Code} (r : Rp W (c.tc k) ρ st s) (h : c.Ok W) : Rp W c ρ st s :=
  ⟨h, r.ns, r.keep, r.above, r.objs, r.fresh, r.nodup, r.cells, r.gens, r.os⟩
section
variable {W : Wd} {c : Cx} {st : St}
theorem call_make {C fI : Addr} {as : List AV} {kw : List (Str × AV)} {Q : AV → St → Prop} (hm : makesIn W.K C = true) (hi : findIn W.K (.ref C) "__init__" = some (some (.ref fI))) (hf : isFn W.K (.ref fI) = true) (hr : 1 ≤ c.room)
    (h : ∀ k, CodeV W (c.tc k) ⟨st.m, st.os ++ [.dict []] ++ [.inst C st.os.length], st.gn⟩ (.ref fI) (.obj (st.os.length + 1) :: as) kw (fun a st' => a = .none ∧ Q (.obj (st.os.length + 1)) st')) : CallK W c st (.ref C) as kw Q := fun ρ s E vs ks r hv hk => by
  have r1 := r.alloc (o := .dict []) (ob := emptyDict) ⟨[], 0, rfl, rfl⟩ rfl
  have hdx : (ρ ++ [s.heap.objs.size])[st.os.length]? = some s.heap.objs.size := by rw [← r.objs.len]; simp
  have r2 := r1.alloc (o := .inst C st.os.length) (ob := instObj C s.heap.objs.size) ⟨_, hdx, rfl⟩ rfl
  rw [Heap.size_push] at r2
  obtain ⟨hh, g, d, t, os⟩ := s
  refine wpAny_call (make_core (makes_of r.X hm) (looks_findIn r.X hi) (fun self => bind_fn r.X self (beq_iff_eq.mp hf)) (.inl rfl) ?_)
  have hv2 : VRel (ρ ++ [hh.objs.size] ++ [hh.objs.size + 1]) (.obj (st.os.length + 1) :: as) (.ref (hh.objs.size + 1) :: vs) := ⟨_, _, rfl, ⟨hh.objs.size + 1, by rw [List.append_assoc, ← r.objs.len]; simp, rfl⟩, hv.mono.mono⟩
  have hk2 : MRel (ρ ++ [hh.objs.size] ++ [hh.objs.size + 1]) kw ks := by
    have : ∀ {ρ ρ' : List Addr} {m : List (Str × AV)} {b : List (Str × Value)}, MRel ρ m b → MRel (ρ ++ ρ') m b := by
      intro ρ ρ' m
      induction m with
      | nil => intro b h; exact h
      | cons p r ih =>
        obtain ⟨x, a⟩ := p
        rintro b ⟨v, b', e, h, q⟩
        exact ⟨v, b', e, h.mono, ih q⟩
    exact this (this hk)
  refine h _ _ _ _ _ _ (r2.tc hr _ (tc_weight _ _ _) (tc_units _ _ _)) hv2 hk2 fun ρ' a v st' s' r' ha hq => ?_
  obtain ⟨rfl, hq⟩ := hq
  cases (show v = .none from ha)
  refine ⟨rfl, ?_⟩
  simp only [List.append_assoc] at r'
  refine ⟨[hh.objs.size] ++ ([hh.objs.size + 1] ++ ρ'), .obj (st.os.length + 1), st', r'.untc r.ok, ⟨hh.objs.size + 1, ?_, rfl⟩, hq⟩
  rw [← r.objs.len]
  simp
end
/-! object.__new__, asked for by its name -/
theorem getm_objnew {prog : Program} {w : World} {A : Around} {E : Value → Shared → Prop} {s : Shared} {K : Frag} {pl : Sem Bool} {Q : Value × List Value → Shared → Prop} (X : K.In s.heap)
    (e : findCls K (.type "object") (.type "type") (PySem.Str.ofString "__new__") = some (.val (.builtin "object.__new__")))
    (h : Q (.builtin "object.__new__", []) { s with toks := s.toks + 1 }) : wpAny (model prog w) A (getMethod (.type "object") (PySem.Str.ofString "__new__") pl) Q E s := by
  have hstub : opaqueClassAbove (.type "object") = pure none := by unfold opaqueClassAbove; dsimp only; rw [show Manifest.isStub "object" = false by decide +kernel]; rfl
  have ht : typeOf (.type "object") = pure (.type "type") := by first | rfl | kernel_rfl
  have L0 : Looks (model prog w) s.heap (typeOf (.type "object")) (.type "type") := Looks.of_pure ht
  have hg : findIn K (.type "type") "__getattribute__" = some (some (.builtin "type.__getattribute__")) := type_tga
  unfold getMethod specialOf
  refine wpAny_bind (wpAny_bind (L0.here ((looks_findIn X hg).here ?_)))
  dsimp only
  rw [if_pos canon_tga]
  refine wpAny_bind (wpAny_mono (Q := fun v => Q (v, [])) (E := E) ?_ (fun _ _ z => wpAny_pure z) fun _ _ z => z)
  refine cls_open X (Looks.of_pure hstub) L0 hg (looks_hook X (r := none) (by rfl)) (by show subIn K _ _ = _; rfl) e ?_
  exact wpAny_pure (by show wpAny _ _ (handedOut (.builtin "object.__new__")) _ _ _; rw [handedOut_of (by decide +kernel)]; exact wpAny_pure h)
section
variable {prog : Program} {w : World} {A : Around} {K : Frag} {C : Addr} {R : Result → Shared → Prop} {h : Heap} {g : Array GenState} {d : Drawn} {t : Nat} {os : OsState}
theorem new_obj {oc : Value} {od : Option Addr} {cd : ClassData} {sl : Array (Option Value)} (hC : h.get? C = some ⟨oc, od, .cls cd, sl⟩) (e1 : cd.abstract = false) (e2 : cd.hasDel = false)
    (here : Looks (model prog w) h (Bind.madeHere "object.__new__" (.ref C)) ()) (typ : Looks (model prog w) h (isType (.ref C)) true) (top : Looks (model prog w) h (isSubtype (.ref C) (.type "object")) true) {b : Value} (base : Looks (model prog w) h (Bind.staticBase (.ref C)) b) (made : Looks (model prog w) h (Bind.madeBy b) (some "object.__new__"))
    (hq : R (.ok (.ret (.ref (h.objs.size + 1)))) ⟨(h.push emptyDict).push (instObj C h.objs.size), g, d, t, os⟩) :
    codeAny (model prog w) A (.call (.builtin "object.__new__") ⟨[.ref C], []⟩) R ⟨h, g, d, t, os⟩ := by
  have F := PySem.F.objNew
  refine codeAny_call_builtin_code (Code.quiet_builtin _ F.quiet) ?_
  unfold checkBuiltinCall
  rw [F.kind, F.split, F.row]
  have args : Bind.checkArgs "object.__new__" ⟨.hand, "object.__new__", "__new__", .cls, []⟩ ⟨[.ref C], []⟩ = pure () := by kernel_rfl
  dsimp only
  rw [args]
  repeat (first | (with_reducible refine wp_no (by first | decide | simp only [bne_self_eq_false, Bool.false_eq_true, not_false_eq_true]) ?_) | lk)
  refine codeAny_builtin F.entry ?_
  unfold Builtin.«object.__new__»
  have fin : ∀ A', wpAny (model prog w) A' (do
      let d ← if typeHasDict (.ref C) then some <$> alloc { cls := .type "dict", data := .dict #[] } else pure none
      ret (← newObj (.ref C) .plain d)) (fun fin s' => match fin with | .done f => R (.ok f) s' | .again c' => c'.quiet = true ∧ codeAny (model prog w) A c' R s') (fun e s' => R (.error e) s') ⟨h, g, d, t, os⟩ := by
    intro A'
    show wpAny _ _ ((alloc emptyDict >>= fun x => pure (some x)) >>= _) _ _ _
    refine wpAny_bind (wpAny_bind (wpAny_alloc (wpAny_pure (wpAny_bind ?_))))
    show wpAny _ _ (newObjAsIs _ _ _) _ _ _
    unfold newObjAsIs classHasDel
    refine wpAny_bind (wpAny_alloc (wpAny_bind (wpAny_bind (wpAny_load (Heap.get?_push_of_some _ (Heap.get?_push_of_some _ hC)) (wpAny_pure ?_)))))
    rw [e2]
    refine wpAny_pure (wpAny_pure ?_)
    show R _ _
    rw [Heap.size_push]
    exact hq
  repeat (first | exact fin _ | (with_reducible refine wp_no (by first | decide | (rw [e1]; decide)) ?_) | lk)
end
section
variable {prog : Program} {w : World} {A : Around} {K : Frag} {C : Addr} {R : Result → Shared → Prop} {s : Shared}
set_option maxHeartbeats 400000 in
/-- a class with a __new__ of its own -/
theorem make_by {oc : Value} {od : Option Addr} {cd : ClassData} {sl : Array (Option Value)} {rest : List Value} {kw : List (Str × Value)} {new init : Value} {p : Addr} {more : List Value} (X : K.In s.heap) (hC : K.lookup C = some ⟨oc, od, .cls cd, sl⟩) (e4 : cd.mro.isEmpty = false)
    (call : Looks (model prog w) s.heap (specialOf (.ref C) "__call__") (some (.builtin "type.__call__"))) (typ : Looks (model prog w) s.heap (isInstance (.ref C) (.type "type")) true)
    (made : Looks (model prog w) s.heap (Bind.madeBy (.ref C)) none) (hr : readsIn K C (.type "type") = true) (e : findCls K (.ref C) (.type "type") (PySem.Str.ofString "__new__") = some (.get (.builtin "staticmethod.__get__") (.ref p) .none (.ref C)))
    (hp : recIn K p "staticmethod" = some (new :: more)) (hh : handedIn new = true)
    (hq : wpAny (model prog w) (A.under (.builtin "type.__call__" ⟨.ref C :: rest, kw⟩)) (PySem.call new (.ref C :: rest) kw) (fun obj s' => Looks (model prog w) s'.heap (isInstance obj (.ref C)) true ∧ ∃ x, obj = .ref x ∧ Looks (model prog w) s'.heap (specialOf obj "__init__") (some init) ∧
        bindSpecial init obj = bindSpecial init obj ∧ Looks (model prog w) s'.heap (bindSpecial init obj) (init, [obj]) ∧
        codeAny (model prog w) (A.under (.builtin "type.__call__" ⟨.ref C :: rest, kw⟩)) (.call init ⟨obj :: rest, kw⟩) (InitBack x R) s') (fun e s' => R (.error e) s') { s with toks := s.toks + 1 }) :
    codeAny (model prog w) A (.call (.ref C) ⟨rest, kw⟩) R s := by
  have hC' := X _ _ hC
  refine codeAny_of_tree ?_
  show wpAny _ _ (callAny (.ref C) _) _ _ _
  obtain ⟨h, g, d, t, os⟩ := s
  refine nd_load hC' ?_
  show wpAny _ _ (callAny.viaDunder (.ref C) _) _ _ _
  unfold callAny.viaDunder
  refine wpAny_bind (call.at ?_)
  dsimp only
  rw [tc_bind]
  refine wpAny_bind (wpAny_pure (wpAny_bind (wpAny_pure ?_)))
  refine wpAny_pure (a := Fin.again (.call (.builtin "type.__call__") ⟨.ref C :: rest, kw⟩)) (And.intro rfl ?_)
  refine codeAny_call_builtin_at (Code.quiet_builtin _ (by decide +kernel)) entry_typeCall (check_slot tc_kind tc_split typ (tc_args _ _ _) ?_)
  unfold Builtin.«type.__call__»
  have hm : Looks (model prog w) h (mroOf (.ref C)) cd.mro := ((Looks.ld (part := none) hC').andThen .now).andThen .now
  iterate 6 (first | (with_reducible refine wp_no (by first | decide | (rw [e4]; decide)) ?_) | lk)
  refine made.at ?_
  dsimp only
  refine wpAny_bind (cls_bind (s := ⟨h, g, d, t, os⟩) X hr e (wpAny_call (sm_get (s := ⟨h, g, d, t + 1, os⟩) X hp ?_)))
  show wpAny _ _ (handedOut new) _ _ _
  rw [handedOut_of hh]
  refine wpAny_pure ?_
  refine wpAny_bind (wpAny_holding (wpAny_mono hq (fun obj s' z => ?_) fun _ _ z => z))
  obtain ⟨i1, x, rfl, i2, _, i3, i4⟩ := z
  refine wpAny_bind (Looks.here i1 ?_)
  rw [if_neg (by decide)]
  unfold callSpecial?
  refine wpAny_bind (wpAny_holding (wpAny_bind (Looks.here i2 ?_)))
  dsimp only
  refine wpAny_holding (wpAny_bind (Looks.here i3 ?_))
  dsimp only
  refine wpAny_bind (wpAny_call (codeAny_mono i4 fun r s2 z => ?_))
  rcases r with e | (v | _ | _ | _) <;> first | exact z | exact z.elim | skip
  obtain ⟨rfl, z⟩ := z
  exact wpAny_pure (wpAny_pure z)
end
end
-- WK
section
open Builtin Builtin.ObjectAttr
theorem MRel.mono {ρ ρ' : List Addr} : ∀ {m : List (Str × AV)} {b : List (Str × Value)}, MRel ρ m b → MRel (ρ ++ ρ') m b
  | [], _, h => h
  | (x, a) :: r, _, ⟨v, b', e, h, q⟩ => ⟨v, b', e, h.mono, MRel.mono q⟩
section
variable {W : Wd} {c : Cx} {st : St}
theorem call_makeN {C fI p : Addr} {new : Value} {more : List Value} {oc : Value} {od : Option Addr} {cd : ClassData} {sl : Array (Option Value)} {as : List AV} {kw : List (Str × AV)} {Q : AV → St → Prop}
    (hC : W.K.lookup C = some ⟨oc, od, .cls cd, sl⟩) (e4 : cd.mro.isEmpty = false) (call : specialIn W.K (.ref C) "__call__" = some (some (.builtin "type.__call__"))) (typ : instIn W.K (.ref C) (.type "type") = some true)
    (made : ∀ S, peek W.K S (Bind.madeBy (.ref C)) = some none) (self : ∀ S, peek W.K S (isSubtype (.ref C) (.ref C)) = some true) (hr : readsIn W.K C (.type "type") = true)
    (e : findCls W.K (.ref C) (.type "type") (PySem.Str.ofString "__new__") = some (.get (.builtin "staticmethod.__get__") (.ref p) .none (.ref C)))
    (hp : recIn W.K p "staticmethod" = some (new :: more)) (hh : handedIn new = true) (hi : findIn W.K (.ref C) "__init__" = some (some (.ref fI))) (hf : isFn W.K (.ref fI) = true) (hroom : 1 ≤ c.room)
    (h : ∀ k, CallK W (c.tc k) st new (.fix (.ref C) :: as) kw (fun a st1 => ∃ j d, a = .obj j ∧ st1.os[j]? = some (.inst C d) ∧ CodeV W (c.tc k) st1 (.ref fI) (.obj j :: as) kw (fun b st2 => b = .none ∧ Q (.obj j) st2))) :
    CallK W c st (.ref C) as kw Q := fun ρ s E vs ks r hv hk => by
  refine wpAny_call (make_by (init := .ref fI) r.X hC e4 (looks_specialIn r.X call) (looks_instIn r.X typ) (Looks.of_peek r.X (made _)) hr e hp hh ?_)
  have r1 := (r.toks (s.toks + 1)).tc hroom (.builtin "type.__call__" ⟨.ref C :: vs, ks⟩) (tc_weight _ _ _) (tc_units _ _ _)
  refine wpAny_mono (h (.builtin "type.__call__" ⟨.ref C :: vs, ks⟩) ρ _ _ (.ref C :: vs) ks r1 ⟨_, _, rfl, rfl, hv⟩ hk) (fun obj s1 p => ?_) fun _ _ x => x
  obtain ⟨ρ1, a, st1, r2, ra, j, d, e1, hj, hcode⟩ := p
  subst e1
  obtain ⟨x, ob, e2, h1, h2, dx, h3, h4⟩ := r2.at_ hj ra
  subst e2; subst h4
  have t1 : Looks W.M s1.heap (typeOf (.ref x)) (.ref C) := (Looks.ld h2).andThen .now
  refine ⟨t1.andThen (Looks.of_peek r2.X (self _)), x, rfl, t1.andThen (looks_findIn r2.X hi), rfl, bind_fn r2.X _ (beq_iff_eq.mp hf), ?_⟩
  refine hcode _ _ _ (.ref x :: vs) ks r2 ⟨_, _, rfl, ⟨x, h1, rfl⟩, hv.mono⟩ hk.mono fun ρ2 b v st2 s2 r3 rb hq => ?_
  obtain ⟨rfl, hq⟩ := hq
  cases (show v = .none from rb)
  refine ⟨rfl, ?_⟩
  rw [List.append_assoc] at r3
  exact ⟨ρ1 ++ ρ2, .obj j, st2, r3.untc r.ok, ⟨x, by rw [← List.append_assoc]; exact idx_app h1, rfl⟩, hq⟩
/-- object.__new__(cls) -/
theorem call_objnew {C : Addr} {oc : Value} {od : Option Addr} {cd : ClassData} {sl : Array (Option Value)} {b : Value} {Q : AV → St → Prop} (hC : W.K.lookup C = some ⟨oc, od, .cls cd, sl⟩) (e1 : cd.abstract = false) (e2 : cd.hasDel = false)
    (here : ∀ S, peek W.K S (Bind.madeHere "object.__new__" (.ref C)) = some ()) (typ : ∀ S, peek W.K S (isType (.ref C)) = some true) (top : ∀ S, peek W.K S (isSubtype (.ref C) (.type "object")) = some true)
    (base : ∀ S, peek W.K S (Bind.staticBase (.ref C)) = some b) (made : ∀ S, peek W.K S (Bind.madeBy b) = some (some "object.__new__"))
    (h : Q (.obj (st.os.length + 1)) ⟨st.m, st.os ++ [.dict []] ++ [.inst C st.os.length], st.gn⟩) : CallV W c st (.builtin "object.__new__") [.fix (.ref C)] Q := fun ρ s E vs r ⟨v, _, e, hv, e'⟩ => by
  subst e; subst e'
  cases (show v = .ref C from hv)
  have r1 := r.alloc (o := .dict []) (ob := emptyDict) ⟨[], 0, rfl, rfl⟩ rfl
  have hdx : (ρ ++ [s.heap.objs.size])[st.os.length]? = some s.heap.objs.size := by rw [← r.objs.len]; simp
  have r2 := r1.alloc (o := .inst C st.os.length) (ob := instObj C s.heap.objs.size) ⟨_, hdx, rfl⟩ rfl
  rw [Heap.size_push] at r2
  have X := r.X
  obtain ⟨hh, g, d, t, os⟩ := s
  refine wpAny_call (new_obj (X _ _ hC) e1 e2 (Looks.of_peek X (here _)) (Looks.of_peek X (typ _)) (Looks.of_peek X (top _)) (Looks.of_peek X (base _)) (Looks.of_peek X (made _)) ?_)
  refine ⟨[hh.objs.size] ++ [hh.objs.size + 1], .obj (st.os.length + 1), _, by rw [← List.append_assoc]; exact r2, ⟨hh.objs.size + 1, ?_, rfl⟩, h⟩
  rw [← r.objs.len]; simp
theorem getM_objnew {Q : Value → List AV → St → Prop} (e : findCls W.K (.type "object") (.type "type") (PySem.Str.ofString "__new__") = some (.val (.builtin "object.__new__")))
    (h : Q (.builtin "object.__new__") [] st) : GetM W c st (.fix (.type "object")) (Str.ofString "__new__") Q := fun ρ s E v pl r hv => by
  cases (show v = .type "object" from hv)
  exact getm_objnew r.X e ⟨[], st, rfl, r.toks _, keep_B, h⟩
/-! identity -/
theorem op_isT {a b : String} {Q : AV → St → Prop} (h : Q (.bool (Value.type a == Value.type b)) st) : Op2 W c VR st (.fix (.type a)) (.fix (.type b)) (compareOp .Is) Q := fun ρ s E v u r hv hu => by
  cases (show v = .type a from hv); cases (show u = .type b from hu)
  exact wpAny_is_plain rfl (Post.here h r (by show Value.bool _ = Value.bool _; rfl))
theorem op_isNotT {a b : String} {Q : AV → St → Prop} (h : Q (.bool (!(Value.type a == Value.type b))) st) : Op2 W c VR st (.fix (.type a)) (.fix (.type b)) (compareOp .IsNot) Q := fun ρ s E v u r hv hu => by
  cases (show v = .type a from hv); cases (show u = .type b from hu)
  exact wpAny_isNot_plain rfl (Post.here h r (by show Value.bool _ = Value.bool _; rfl))
theorem op_isNotRR {a : Addr} {Q : AV → St → Prop} (h : Q (.bool false) st) : Op2 W c VR st (.fix (.ref a)) (.fix (.ref a)) (compareOp .IsNot) Q := fun ρ s E v u r hv hu => by
  cases (show v = .ref a from hv); cases (show u = .ref a from hu)
  exact wpAny_isNot_ref_self (Post.here h r (by show Value.bool _ = Value.bool _; rfl))
theorem op_isNotR {a b : Addr} {oa ob : Obj} {Q : AV → St → Prop} (ha : W.K.lookup a = some oa) (hb : W.K.lookup b = some ob) (hc : oa.cls = .type "type") (hne : (a == b) = false) (h : Q (.bool true) st) : Op2 W c VR st (.fix (.ref a)) (.fix (.ref b)) (compareOp .IsNot) Q := fun ρ s E v u r hv hu => by
  cases (show v = .ref a from hv); cases (show u = .ref b from hu)
  show wpAny _ _ (do return Value.bool (!(← isSame (.ref a) (.ref b)))) _ _ _
  refine wpAny_bind ?_
  show wpAny _ _ (if (a == b) = true then pure true else _) _ _ _
  rw [hne, if_neg (by decide)]
  refine wpAny_bind (wpAny_load (r.X _ _ ha) (wpAny_bind (wpAny_load (r.X _ _ hb) ?_)))
  rw [hc]
  exact wpAny_pure (wpAny_pure (Post.here h r (by show Value.bool _ = Value.bool _; rfl)))
theorem op_isNotNone {a : AV} {Q : AV → St → Prop} (h : Q (.bool (match a with | .none => false | _ => true)) st) (hf : ∀ v, a ≠ .fix v) : Op2 W c VR st a .none (compareOp .IsNot) Q := fun ρ s E v u r e e' => by
  cases (show u = .none from e')
  cases a with
  | none => cases (show v = .none from e); exact wpAny_isNot_self rfl (Post.here h r (by show Value.bool _ = Value.bool _; rfl))
  | bool b => cases (show v = .bool b from e); exact isnot_bool_none (Post.here h r (by show Value.bool _ = Value.bool _; rfl))
  | int i => obtain ⟨t, e⟩ := e; subst e; exact isnot_int_none (Post.here h r (by show Value.bool _ = Value.bool _; rfl))
  | str x => obtain ⟨t, e⟩ := e; subst e; exact isnot_str_none (Post.here h r (by show Value.bool _ = Value.bool _; rfl))
  | obj k => obtain ⟨a, _, e⟩ := e; subst e; exact isnot_ref_none (Post.here h r (by show Value.bool _ = Value.bool _; rfl))
  | fix w => exact absurd rfl (hf w)
/-- type(x) of the plain ones -/
theorem call_typeI {x : Int} {Q : AV → St → Prop} (h : Q (.fix (.type "int")) st) : CallV W c st (.type "type") [.int x] Q := fun ρ s E vs r ⟨v, _, e, ⟨t, ev⟩, e'⟩ => by
  subst e; subst e'; subst ev
  exact call_type_of (show s.TypeIs (.int x t) "int" from rfl) (by decide) (Post.here h r rfl)
end
end
-- WL
/-- what was there stays, but for one place -/
noncomputable def ExtB (d : Nat) (a b : List AO) : Prop := ∀ (j : Nat) (o : AO), j ≠ d → a[j]? = some o → b[j]? = some o
theorem ExtB.refl (d : Nat) (a : List AO) : ExtB d a a := fun _ _ _ h => h
theorem ExtB.trans {d : Nat} {a b e : List AO} (h : ExtB d a b) (h' : ExtB d b e) : ExtB d a e := fun j o n x => h' j o n (h j o n x)
theorem ExtB.of {d : Nat} {a b : List AO} (h : Ext a b) : ExtB d a b := fun j o _ x => h j o x
theorem ExtB.ext {d : Nat} {a b e : List AO} (h : ExtB d a b) (h' : Ext b e) : ExtB d a e := h.trans (ExtB.of h')
theorem Ext.extB {d : Nat} {a b e : List AO} (h : Ext a b) (h' : ExtB d b e) (hd : a.length ≤ d) : Ext a e := fun j o x => h' j o (by have := (List.getElem?_eq_some_iff.mp x).1; lsm_bools) (h j o x)
theorem ExtB.len {d : Nat} {a b : List AO} (h : ExtB d a b) : d < b.length → a.length ≤ b.length := fun hd => by
  rcases Nat.eq_zero_or_pos a.length with q | q
  · lsm_bools
  · by_cases e : a.length - 1 = d
    · lsm_bools
    · have := h (a.length - 1) a[a.length - 1] e (by rw [List.getElem?_eq_getElem])
      have := (List.getElem?_eq_some_iff.mp this).1
      lsm_bools
theorem BindV.one {W : Wd} {c : Cx} {st : St} {fd : FuncData} {a : AV} {x : Str} (h : ∀ v, bindArgs fd ⟨[v], []⟩ = pure [(x, v)]) : BindV W c st fd [a] [] [(x, a)] [] :=
  BindV.of fun ρ s vs ks X hv hk => by
    obtain ⟨v1, _, rfl, h1, rfl⟩ := hv
    cases hk
    exact ⟨_, BindsTo.of_eq (h v1), ⟨_, _, rfl, h1, rfl⟩⟩
theorem BindV.two {W : Wd} {c : Cx} {st : St} {fd : FuncData} {a b : AV} {x y : Str} (h : ∀ v u, bindArgs fd ⟨[v, u], []⟩ = pure [(x, v), (y, u)]) : BindV W c st fd [a, b] [] [(x, a), (y, b)] [] :=
  BindV.of fun ρ s vs ks X hv hk => by
    obtain ⟨v1, _, rfl, h1, v2, _, rfl, h2, rfl⟩ := hv
    cases hk
    exact ⟨_, BindsTo.of_eq (h v1 v2), ⟨_, _, rfl, h1, _, _, rfl, h2, rfl⟩⟩
section
variable {W : Wd} {c : Cx}
theorem sa_own' {m : List (Str × AV)} {os : List AO} {gn : Array GenState} {k d : Nat} {C : Addr} {l : List (Str × AV)} {a : AV} {name : Str} {Q : St → Prop} (hk : os[k]? = some (.inst C d)) (hd : os[d]? = some (.dict l)) (hs : findIn W.K (.ref C) "__setattr__" = some (some (.builtin "object.__setattr__")))
    (hp : plainOver W.K C = true) (ht : takerIn W.K C name = some none) (hh : hasDictIn W.K C = true) (hz : l.length ≤ 100)
    (h : ∀ os' : List AO, os'[k]? = some (.inst C d) → os'[d]? = some (.dict (putM name a l)) → ExtB d os os' → Q ⟨m, os', gn⟩) : SetA W c ⟨m, os, gn⟩ (.obj k) name a Q := by
  refine sa_own hk hd hs hp ht hh hz (h _ ?_ ?_ ?_)
  · have : k ≠ d := by intro e; subst e; rw [hk] at hd; cases hd
    rw [List.getElem?_set_ne (Ne.symm this)]; exact hk
  · rw [List.getElem?_set_self (List.getElem?_eq_some_iff.mp hd).1]
  · intro j o n x
    rw [List.getElem?_set_ne (Ne.symm n)]; exact x
/-- the class lets its instances' own names be read; be written -/
noncomputable def Own (W : Wd) (C : Addr) (x : Str) : Prop := plainGet W.K C x = true ∧ hasDictIn W.K C = true ∧ ∃ b, findIn W.K (.ref C) x = some b ∧ noGet W.K b = true
noncomputable def Put (W : Wd) (C : Addr) (x : Str) : Prop := findIn W.K (.ref C) "__setattr__" = some (some (.builtin "object.__setattr__")) ∧ plainOver W.K C = true ∧ takerIn W.K C x = some none ∧ hasDictIn W.K C = true
theorem ga_o {st : St} {k d : Nat} {C : Addr} {l : List (Str × AV)} {a : AV} {x : Str} {Q : AV → St → Prop} (hk : st.os[k]? = some (.inst C d)) (hd : st.os[d]? = some (.dict l)) (ho : Own W C x) (hl : l.lookup x = some a) (hv : a.hand = true) (h : Q a st) : GetA W c st (.obj k) x Q := by
  obtain ⟨h1, h2, b, e, h3⟩ := ho
  exact ga_own hk hd h1 h2 e h3 hl hv h
theorem sa_o {m : List (Str × AV)} {os : List AO} {gn : Array GenState} {k d : Nat} {C : Addr} {l : List (Str × AV)} {a : AV} {x : Str} {Q : St → Prop} (hk : os[k]? = some (.inst C d)) (hd : os[d]? = some (.dict l)) (ho : Put W C x) (hz : l.length ≤ 100)
    (h : ∀ os' : List AO, os'[k]? = some (.inst C d) → os'[d]? = some (.dict (putM x a l)) → ExtB d os os' → Q ⟨m, os', gn⟩) : SetA W c ⟨m, os, gn⟩ (.obj k) x a Q :=
  sa_own' hk hd ho.1 ho.2.1 ho.2.2.1 ho.2.2.2 hz h
/-- `y.x`; what is kept at `y.x` -/
theorem ev_nameA {st : St} {y x : Str} {p1 p2 : Pos} {k d : Nat} {C : Addr} {l : List (Str × AV)} {a : AV} {Q : AV → St → Prop} (hm : st.m.lookup y = some (.obj k)) (hs : c.scope.names.lookup y = some .local) (hy : (y == ("__debug__" : Str)) = false)
    (hk : st.os[k]? = some (.inst C d)) (hd : st.os[d]? = some (.dict l)) (ho : Own W C x) (hl : l.lookup x = some a) (hv : a.hand = true) (h : Q a st) : Ev W c st (eval (.Attribute (.Name y p1) x p2) c.env) Q :=
  ev_Attr rfl (ev_local hm hs hy (ga_o hk hd ho hl hv h))
theorem ev_nameG {st : St} {y x : Str} {p1 : Pos} {k d : Nat} {C : Addr} {l : List (Str × AV)} {a : AV} {Q : AV → AV → St → Prop} (hm : st.m.lookup y = some (.obj k)) (hs : c.scope.names.lookup y = some .local) (hy : (y == ("__debug__" : Str)) = false)
    (hk : st.os[k]? = some (.inst C d)) (hd : st.os[d]? = some (.dict l)) (ho : Own W C x) (hl : l.lookup x = some a) (hv : a.hand = true) (h : Q (.obj k) a st) : Ev W c st (eval (.Name y p1) c.env) (fun oa st1 => GetA W c st1 oa x (Q oa)) :=
  ev_local hm hs hy (ga_o hk hd ho hl hv h)
theorem ev_nameS {m : List (Str × AV)} {os : List AO} {gn : Array GenState} {y x : Str} {p1 : Pos} {k d : Nat} {C : Addr} {l : List (Str × AV)} {a : AV} {Q : St → Prop} (hm : m.lookup y = some (.obj k)) (hs : c.scope.names.lookup y = some .local) (hy : (y == ("__debug__" : Str)) = false)
    (hk : os[k]? = some (.inst C d)) (hd : os[d]? = some (.dict l)) (ho : Put W C x) (hz : l.length ≤ 100) (h : ∀ os' : List AO, os'[k]? = some (.inst C d) → os'[d]? = some (.dict (putM x a l)) → ExtB d os os' → Q ⟨m, os', gn⟩) :
    Ev W c ⟨m, os, gn⟩ (eval (.Name y p1) c.env) (fun oa st2 => SetA W c st2 oa x a Q) :=
  ev_local (st := ⟨m, os, gn⟩) hm hs hy (sa_o hk hd ho hz h)
end
-- EJ
theorem hd8 {w : World} : hasDictIn (WW w).K 852 = true := by (((try dsimp only [WW]); k_is))
theorem sa8 {w : World} : findIn (WW w).K (.ref 852) "__setattr__" = some (some (.builtin "object.__setattr__")) := by (((try dsimp only [WW]); k_is))
theorem po8 {w : World} : plainOver (WW w).K 852 = true := by (((try dsimp only [WW]); k_is))
theorem hd7 {w : World} : hasDictIn (WW w).K 717 = true := by (((try dsimp only [WW]); k_is))
theorem sa7 {w : World} : findIn (WW w).K (.ref 717) "__setattr__" = some (some (.builtin "object.__setattr__")) := by (((try dsimp only [WW]); k_is))
theorem po7 {w : World} : plainOver (WW w).K 717 = true := by (((try dsimp only [WW]); k_is))
theorem oa0 {w : World} : Own (WW w) 852 (Str.ofString "instream") := ⟨by (((try dsimp only [WW]); k_is)), hd8, _, by (((try dsimp only [WW]); k_is)), by (((try dsimp only [WW]); k_is))⟩
theorem pa0 {w : World} : Put (WW w) 852 (Str.ofString "instream") := ⟨sa8, po8, by (((try dsimp only [WW]); k_is)), hd8⟩
theorem oa1 {w : World} : Own (WW w) 852 (Str.ofString "infile") := ⟨by (((try dsimp only [WW]); k_is)), hd8, _, by (((try dsimp only [WW]); k_is)), by (((try dsimp only [WW]); k_is))⟩
theorem pa1 {w : World} : Put (WW w) 852 (Str.ofString "infile") := ⟨sa8, po8, by (((try dsimp only [WW]); k_is)), hd8⟩
theorem oa2 {w : World} : Own (WW w) 852 (Str.ofString "posix") := ⟨by (((try dsimp only [WW]); k_is)), hd8, _, by (((try dsimp only [WW]); k_is)), by (((try dsimp only [WW]); k_is))⟩
theorem pa2 {w : World} : Put (WW w) 852 (Str.ofString "posix") := ⟨sa8, po8, by (((try dsimp only [WW]); k_is)), hd8⟩
theorem oa3 {w : World} : Own (WW w) 852 (Str.ofString "eof") := ⟨by (((try dsimp only [WW]); k_is)), hd8, _, by (((try dsimp only [WW]); k_is)), by (((try dsimp only [WW]); k_is))⟩
theorem pa3 {w : World} : Put (WW w) 852 (Str.ofString "eof") := ⟨sa8, po8, by (((try dsimp only [WW]); k_is)), hd8⟩
theorem oa4 {w : World} : Own (WW w) 852 (Str.ofString "commenters") := ⟨by (((try dsimp only [WW]); k_is)), hd8, _, by (((try dsimp only [WW]); k_is)), by (((try dsimp only [WW]); k_is))⟩
theorem pa4 {w : World} : Put (WW w) 852 (Str.ofString "commenters") := ⟨sa8, po8, by (((try dsimp only [WW]); k_is)), hd8⟩
theorem oa5 {w : World} : Own (WW w) 852 (Str.ofString "wordchars") := ⟨by (((try dsimp only [WW]); k_is)), hd8, _, by (((try dsimp only [WW]); k_is)), by (((try dsimp only [WW]); k_is))⟩
theorem pa5 {w : World} : Put (WW w) 852 (Str.ofString "wordchars") := ⟨sa8, po8, by (((try dsimp only [WW]); k_is)), hd8⟩
theorem oa6 {w : World} : Own (WW w) 852 (Str.ofString "whitespace") := ⟨by (((try dsimp only [WW]); k_is)), hd8, _, by (((try dsimp only [WW]); k_is)), by (((try dsimp only [WW]); k_is))⟩
theorem pa6 {w : World} : Put (WW w) 852 (Str.ofString "whitespace") := ⟨sa8, po8, by (((try dsimp only [WW]); k_is)), hd8⟩
theorem oa7 {w : World} : Own (WW w) 852 (Str.ofString "whitespace_split") := ⟨by (((try dsimp only [WW]); k_is)), hd8, _, by (((try dsimp only [WW]); k_is)), by (((try dsimp only [WW]); k_is))⟩
theorem pa7 {w : World} : Put (WW w) 852 (Str.ofString "whitespace_split") := ⟨sa8, po8, by (((try dsimp only [WW]); k_is)), hd8⟩
theorem oa8 {w : World} : Own (WW w) 852 (Str.ofString "quotes") := ⟨by (((try dsimp only [WW]); k_is)), hd8, _, by (((try dsimp only [WW]); k_is)), by (((try dsimp only [WW]); k_is))⟩
theorem pa8 {w : World} : Put (WW w) 852 (Str.ofString "quotes") := ⟨sa8, po8, by (((try dsimp only [WW]); k_is)), hd8⟩
theorem oa9 {w : World} : Own (WW w) 852 (Str.ofString "escape") := ⟨by (((try dsimp only [WW]); k_is)), hd8, _, by (((try dsimp only [WW]); k_is)), by (((try dsimp only [WW]); k_is))⟩
theorem pa9 {w : World} : Put (WW w) 852 (Str.ofString "escape") := ⟨sa8, po8, by (((try dsimp only [WW]); k_is)), hd8⟩
theorem oa10 {w : World} : Own (WW w) 852 (Str.ofString "escapedquotes") := ⟨by (((try dsimp only [WW]); k_is)), hd8, _, by (((try dsimp only [WW]); k_is)), by (((try dsimp only [WW]); k_is))⟩
theorem pa10 {w : World} : Put (WW w) 852 (Str.ofString "escapedquotes") := ⟨sa8, po8, by (((try dsimp only [WW]); k_is)), hd8⟩
theorem oa11 {w : World} : Own (WW w) 852 (Str.ofString "state") := ⟨by (((try dsimp only [WW]); k_is)), hd8, _, by (((try dsimp only [WW]); k_is)), by (((try dsimp only [WW]); k_is))⟩
theorem pa11 {w : World} : Put (WW w) 852 (Str.ofString "state") := ⟨sa8, po8, by (((try dsimp only [WW]); k_is)), hd8⟩
theorem oa12 {w : World} : Own (WW w) 852 (Str.ofString "pushback") := ⟨by (((try dsimp only [WW]); k_is)), hd8, _, by (((try dsimp only [WW]); k_is)), by (((try dsimp only [WW]); k_is))⟩
theorem pa12 {w : World} : Put (WW w) 852 (Str.ofString "pushback") := ⟨sa8, po8, by (((try dsimp only [WW]); k_is)), hd8⟩
theorem oa13 {w : World} : Own (WW w) 852 (Str.ofString "lineno") := ⟨by (((try dsimp only [WW]); k_is)), hd8, _, by (((try dsimp only [WW]); k_is)), by (((try dsimp only [WW]); k_is))⟩
theorem pa13 {w : World} : Put (WW w) 852 (Str.ofString "lineno") := ⟨sa8, po8, by (((try dsimp only [WW]); k_is)), hd8⟩
theorem oa14 {w : World} : Own (WW w) 852 (Str.ofString "debug") := ⟨by (((try dsimp only [WW]); k_is)), hd8, _, by (((try dsimp only [WW]); k_is)), by (((try dsimp only [WW]); k_is))⟩
theorem pa14 {w : World} : Put (WW w) 852 (Str.ofString "debug") := ⟨sa8, po8, by (((try dsimp only [WW]); k_is)), hd8⟩
theorem oa15 {w : World} : Own (WW w) 852 (Str.ofString "token") := ⟨by (((try dsimp only [WW]); k_is)), hd8, _, by (((try dsimp only [WW]); k_is)), by (((try dsimp only [WW]); k_is))⟩
theorem pa15 {w : World} : Put (WW w) 852 (Str.ofString "token") := ⟨sa8, po8, by (((try dsimp only [WW]); k_is)), hd8⟩
theorem oa16 {w : World} : Own (WW w) 852 (Str.ofString "filestack") := ⟨by (((try dsimp only [WW]); k_is)), hd8, _, by (((try dsimp only [WW]); k_is)), by (((try dsimp only [WW]); k_is))⟩
theorem pa16 {w : World} : Put (WW w) 852 (Str.ofString "filestack") := ⟨sa8, po8, by (((try dsimp only [WW]); k_is)), hd8⟩
theorem oa17 {w : World} : Own (WW w) 852 (Str.ofString "source") := ⟨by (((try dsimp only [WW]); k_is)), hd8, _, by (((try dsimp only [WW]); k_is)), by (((try dsimp only [WW]); k_is))⟩
theorem pa17 {w : World} : Put (WW w) 852 (Str.ofString "source") := ⟨sa8, po8, by (((try dsimp only [WW]); k_is)), hd8⟩
theorem oa18 {w : World} : Own (WW w) 852 (Str.ofString "_punctuation_chars") := ⟨by (((try dsimp only [WW]); k_is)), hd8, _, by (((try dsimp only [WW]); k_is)), by (((try dsimp only [WW]); k_is))⟩
theorem pa18 {w : World} : Put (WW w) 852 (Str.ofString "_punctuation_chars") := ⟨sa8, po8, by (((try dsimp only [WW]); k_is)), hd8⟩
theorem ob0 {w : World} : Own (WW w) 717 (Str.ofString "_StringIO__newline") := ⟨by (((try dsimp only [WW]); k_is)), hd7, _, by (((try dsimp only [WW]); k_is)), by (((try dsimp only [WW]); k_is))⟩
theorem pb0 {w : World} : Put (WW w) 717 (Str.ofString "_StringIO__newline") := ⟨sa7, po7, by (((try dsimp only [WW]); k_is)), hd7⟩
theorem ob1 {w : World} : Own (WW w) 717 (Str.ofString "_StringIO__buf") := ⟨by (((try dsimp only [WW]); k_is)), hd7, _, by (((try dsimp only [WW]); k_is)), by (((try dsimp only [WW]); k_is))⟩
theorem pb1 {w : World} : Put (WW w) 717 (Str.ofString "_StringIO__buf") := ⟨sa7, po7, by (((try dsimp only [WW]); k_is)), hd7⟩
theorem ob2 {w : World} : Own (WW w) 717 (Str.ofString "_StringIO__pos") := ⟨by (((try dsimp only [WW]); k_is)), hd7, _, by (((try dsimp only [WW]); k_is)), by (((try dsimp only [WW]); k_is))⟩
theorem pb2 {w : World} : Put (WW w) 717 (Str.ofString "_StringIO__pos") := ⟨sa7, po7, by (((try dsimp only [WW]); k_is)), hd7⟩
def side2 : Char → Lean.MacroM (Lean.TSyntax `tactic)
  | 'o' => rowsOf side0 "!oa0,!oa1,!oa2,!oa3,!oa4,!oa5,!oa6,!oa7,!oa8,!oa9,!oa10,!oa11,!oa12,!oa13,!oa14,!oa15,!oa16,!oa17,!oa18,!ob0,!ob1,!ob2"
  | 'p' => rowsOf side0 "!pa0,!pa1,!pa2,!pa3,!pa4,!pa5,!pa6,!pa7,!pa8,!pa9,!pa10,!pa11,!pa12,!pa13,!pa14,!pa15,!pa16,!pa17,!pa18,!pb0,!pb1,!pb2"
  | c => side1 c
def rows2 (rows : String) : Lean.MacroM (Lean.TSyntax `tactic) := rowsOf side2 rows
local macro_rules | `(tactic| kat_tups) => rows2 "ev_nameS LKRAApZ,ev_nameG LKRAAoLR,ev_nameA LKRAAoLR,ev_Attr R"
local macro_rules | `(tactic| keq_hits) => rows1 "ex_AssignA R"
local macro_rules | `(tactic| keq_hits) => rows1 "ex_AugA"
section
variable {W : Wd} {c : Cx} {st : St} {Q : AV → St → Prop}
theorem op_inS' {x : Str} (h : Q (.bool true) st) : Op2 W c VR st (.str x) .none (compareOp .IsNot) Q := op_isNotNone h fun v e => by cases e
theorem op_inI' {x : Int} (h : Q (.bool true) st) : Op2 W c VR st (.int x) .none (compareOp .IsNot) Q := op_isNotNone h fun v e => by cases e
theorem op_inO' {x : Nat} (h : Q (.bool true) st) : Op2 W c VR st (.obj x) .none (compareOp .IsNot) Q := op_isNotNone h fun v e => by cases e
theorem op_inN' (h : Q (.bool false) st) : Op2 W c VR st .none .none (compareOp .IsNot) Q := op_isNotNone h fun v e => by cases e
theorem op_iS' {x : Str} (h : Q (.bool false) st) : Op2 W c VR st (.str x) .none (compareOp .Is) Q := op_isNone h fun v e => by cases e
theorem op_iI' {x : Int} (h : Q (.bool false) st) : Op2 W c VR st (.int x) .none (compareOp .Is) Q := op_isNone h fun v e => by cases e
theorem op_iO' {x : Nat} (h : Q (.bool false) st) : Op2 W c VR st (.obj x) .none (compareOp .Is) Q := op_isNone h fun v e => by cases e
theorem op_iN' (h : Q (.bool true) st) : Op2 W c VR st .none .none (compareOp .Is) Q := op_isNone h fun v e => by cases e
end
local macro_rules | `(tactic| kpc_turns) => rows1 "op_inS',op_inI',op_inO',op_inN',op_iS',op_iI',op_iO',op_iN',op_isNotT,op_isT"
local macro_rules | `(tactic| kfm_turns) => rows2 "ga_o AAoLR,sa_o AApZ,call_typeS,call_typeI"
local macro_rules | `(tactic| leaf_len) => rows1 "br_true D,br_false D,br_true' D,br_false' D"
local macro_rules | `(tactic| kat_tups) => rows1 "ev_SubSlice,ev_part0,ev_part1"
/-- IOBase.__new__ -/
theorem spec_ionew {w : World} {c : Cx} {st : St} {a : AV} {Q : AV → St → Prop} (hr : 2 ≤ c.room)
    (h : ∀ (os' : List AO) (j d : Nat), Ext st.os os' → st.os.length ≤ d → d < j → os'[j]? = some (.inst 717 d) → os'[d]? = some (.dict []) → Q (.obj j) { st with os := os' }) : CodeV (WW w) c st (.ref 210) [.fix (.ref 717), a] [] Q := by
  refine' code_fn (m0 := [(Str.ofString "cls", .fix (.ref 717)), (Str.ofString "args", .obj st.os.length), (Str.ofString "kwargs", .obj (st.os.length + 1))]) (news := [.tup [a], .dict []]) ?ho ?hcd ?room ?hb ?hm ?hloc ?c1 ?c2 ?c3 ?c4 ?_
  case ho => (((try dsimp only [WW]); k_is))
  case hcd => (((try dsimp only [WW]); k_is))
  case c1 => exact rfl
  case c2 => exact rfl
  case c3 => exact rfl
  case c4 => decide
  case hm => (simp only [List.map_cons, List.map_nil]; decide)
  case hloc => (simp only [List.map_cons, List.map_nil]; decide)
  case room => lsm_bools
  case hb =>
    intro ρ s A E Qb vs ks r hv hk k
    obtain ⟨v1, _, rfl, h1, v2, _, rfl, h2, rfl⟩ := hv
    cases hk
    cases (show v1 = .ref 717 from h1)
    show wpAny _ _ (alloc { cls := .type "tuple", data := .seq #[v2] } >>= fun t => alloc { cls := .type "dict", data := .dict #[] } >>= fun d => pure [(Str.ofString "cls", Value.ref 717), (Str.ofString "args", Value.ref t), (Str.ofString "kwargs", Value.ref d)]) _ _ _
    refine wpAny_bind (wpAny_alloc (wpAny_bind (wpAny_alloc (wpAny_pure ?_))))
    have r1 := r.alloc (o := .tup [a]) (ob := { cls := .type "tuple", data := .seq #[v2] }) ⟨[v2], 0, rfl, v2, [], rfl, h2, rfl⟩ rfl
    have r2 := r1.alloc (o := .dict []) (ob := { cls := .type "dict", data := .dict #[] }) ⟨[], 0, rfl, rfl⟩ rfl
    refine k ([s.heap.objs.size] ++ [s.heap.objs.size + 1]) _ _ ?_ ?_
    · have e : st.os ++ [AO.tup [a], AO.dict []] = st.os ++ [AO.tup [a]] ++ [AO.dict []] := by simp
      rw [e, ← List.append_assoc]
      rw [Heap.size_push] at r2
      exact r2
    · refine ⟨_, _, rfl, rfl, _, _, rfl, ⟨s.heap.objs.size, ?_, rfl⟩, _, _, ?_, ⟨s.heap.objs.size + 1, ?_, rfl⟩, rfl⟩
      · rw [← r.objs.len]; simp
      · rw [Heap.size_push]
      · rw [← r.objs.len]; simp
  intro c' hs hcl hrm
  repeat' (first | tb_start | with_reducible first | refine ex_cons ?_ | refine ex_If ?_)
  refine op_isNotR (by (((try dsimp only [WW]); k_is))) (by (((try dsimp only [WW]); k_is))) rfl (by decide) ?_
  repeat' (first | tb_start | with_reducible first | refine ex_cons ?_ | refine ex_If ?_)
  refine op_isNotRR ?_
  repeat' (first | tb_start | with_reducible first | refine ex_cons ?_ | refine ex_If ?_)
  refine getM_objnew (by (((try dsimp only [WW]); k_is))) ?_
  repeat' (first | tb_start | with_reducible first | refine ex_cons ?_ | refine ex_If ?_)
  refine call_objnew (b := .type "object") (by (((try dsimp only [WW]); k_is))) rfl rfl ?_ ?_ ?_ ?_ ?_ ?_
  · intro S; kernel_rfl
  · intro S; kernel_rfl
  · intro S; kernel_rfl
  · intro S; kernel_rfl
  · intro S; kernel_rfl
  repeat' (first | tb_start | with_reducible first | refine ex_cons ?_ | refine ex_If ?_)
  have e : (st.os ++ [AO.tup [a], AO.dict []]).length = st.os.length + 2 := by simp
  have := h (st.os ++ [AO.tup [a], AO.dict []] ++ [AO.dict []] ++ [AO.inst 717 (st.os ++ [AO.tup [a], AO.dict []]).length]) (st.os.length + 2 + 1) (st.os.length + 2) (((Ext.app _ _).trans (Ext.app _ _)).trans (Ext.app _ _)) (by lsm_bools) (by lsm_bools) (by rw [List.getElem?_append_right (by simp)]; simp) (by simp)
  rw [← e] at this
  exact this
/-- StringIO's text, its line ends as they are -/
theorem spec_translated {w : World} {c : Cx} {st : St} {k d : Nat} {x : Str} {l : List (Str × AV)} {Q : AV → St → Prop} (hr : 1 ≤ c.room) (hk : st.os[k]? = some (.inst 717 d)) (hd : st.os[d]? = some (.dict l)) (hl : l.lookup (Str.ofString "_StringIO__newline") = some (.str (Str.ofString "\n")))
    (h : Q (.str x) st) : CodeV (WW w) c st (.ref 494) [.obj k, .str x] [] Q := by
  (refine' code_fn (m0 := [(Str.ofString "self", .obj k), (Str.ofString "s", .str x)]) (news := []) ?ho ?hcd ?room ?hb ?hm ?hloc ?c1 ?c2 ?c3 ?c4 ?_; (case ho => (((try dsimp only [WW]); k_is))); (case hcd => (((try dsimp only [WW]); k_is))); (case c1 => exact rfl); (case c2 => exact rfl); (case c3 => exact rfl); (case c4 => decide); (case hm => (simp only [List.map_cons, List.map_nil]; decide)); (case hloc => (simp only [List.map_cons, List.map_nil]; decide)); (case room => (first | lsm_bools | (show 1 ≤ c.room - 1; lsm_bools))))
  case hb => exact BindV.two fun v u => by kernel_rfl
  intro c' hs hcl hrm
  rw [List.append_nil]
  repeat' (first | tb_start | with_reducible first | refine ex_cons ?_ | refine ex_If ?_)
  exact h
/-- what a StringIO holds -/
noncomputable abbrev sioD (x : Str) (p : Nat) : List (Str × AV) := [(Str.ofString "_StringIO__newline", .str (Str.ofString "\n")), (Str.ofString "_StringIO__buf", .str x), (Str.ofString "_StringIO__pos", .int (p : Int))]
/-- StringIO(text) -/
theorem spec_sio_init {w : World} {c : Cx} {st : St} {k d : Nat} {x : Str} {Q : AV → St → Prop} (hr : 3 ≤ c.room) (hk : st.os[k]? = some (.inst 717 d)) (hd : st.os[d]? = some (.dict []))
    (h : ∀ os' : List AO, ExtB d st.os os' → os'[d]? = some (.dict (sioD x 0)) → Q .none { st with os := os' }) : CodeV (WW w) c st (.ref 487) [.obj k, .str x] [] Q := by
  (refine' code_fn (m0 := [(Str.ofString "self", .obj k), (Str.ofString "initial_value", .str x), (Str.ofString "newline", .str (Str.ofString "\n"))]) (news := []) ?ho ?hcd ?room ?hb ?hm ?hloc ?c1 ?c2 ?c3 ?c4 ?_; (case ho => (((try dsimp only [WW]); k_is))); (case hcd => (((try dsimp only [WW]); k_is))); (case c1 => exact rfl); (case c2 => exact rfl); (case c3 => exact rfl); (case c4 => decide); (case hm => (simp only [List.map_cons, List.map_nil]; decide)); (case hloc => (simp only [List.map_cons, List.map_nil]; decide)); (case room => (first | lsm_bools | (show 1 ≤ c.room - 1; lsm_bools))))
  case hb =>
    refine BindV.of fun ρ s vs ks X hv hk => ?_
    obtain ⟨v1, _, rfl, h1, v2, _, rfl, h2, rfl⟩ := hv
    cases hk
    exact ⟨_, binds_K X rfl (by (((try dsimp only [WW]); k_is))) rfl rfl rfl, ⟨_, _, rfl, h1, _, _, rfl, h2, _, _, rfl, ⟨_, rfl⟩, rfl⟩⟩
  intro c' hs hcl hrm
  rw [List.append_nil]
  repeat' (first | tb_start | with_reducible first | refine ex_cons ?_ | refine ex_If ?_)
  intro os1 hk1 hd1 he1
  repeat' (first | tb_start | with_reducible first | refine ex_cons ?_ | refine ex_If ?_)
  intro os2 hk2 hd2 he2
  repeat' (first | tb_start | with_reducible first | refine ex_cons ?_ | refine ex_If ?_)
  intro os3 hk3 hd3 he3
  repeat' (first | tb_start | with_reducible first | refine ex_cons ?_ | refine ex_If ?_)
  ((refine' getM_inst ?hk ?hd ?hg ?hf ?ht ?hl ?hkeep ?_; (case hk => with_reducible assumption); (case hd => with_reducible assumption); (case hg => (((try dsimp only [WW]); k_is))); (case hf => (((try dsimp only [WW]); k_is))); (case ht => (((try dsimp only [WW]); k_is))); (case hl => kct_strs); (case hkeep => (first | exact keep_B | exact keep_T | exact keep_K (by (((try dsimp only [WW]); k_is)))))))
  repeat' (first | tb_start | with_reducible first | refine ex_cons ?_ | refine ex_If ?_)
  refine CodeV.call (spec_translated (by lsm_bools) hk3 hd3 (by kct_strs) ?_)
  repeat' (first | tb_start | with_reducible first | refine ex_cons ?_ | refine ex_If ?_)
  intro os4 hk4 hd4 he4
  repeat' (first | tb_start | with_reducible first | refine ex_cons ?_ | refine ex_If ?_)
  exact h os4 (((he1.trans he2).trans he3).trans he4) hd4
-- EK
section
variable {W : Wd} {c : Cx} {st : St}
theorem call_intI {x : Int} {Q : AV → St → Prop} (h : Q (.int x) st) : CallV W c st (.type "int") [.int x] Q := fun ρ s E vs r ⟨v, _, e, ⟨t, ev⟩, e'⟩ => by
  subst e; subst e'; subst ev
  exact call_int_int (Post.here h r ⟨_, rfl⟩)
theorem sl_one {x : Str} {p : Nat} {ch : Nat} {i j : Int} {Q : AV → St → Prop} (hx : x.cps.toList[p]? = some ch) (hz : x.length ≤ 1000000) (hi : i = (p : Int)) (hj : j = ((p + 1 : Nat) : Int)) (h : Q (.str ⟨#[ch]⟩) st) :
    ∃ T id, typeLookup (.type T) "__getitem__" = pure (some (.builtin id)) ∧ SliceR W c st T (.str x) (.int i) (.int j) Q := by
  subst hi; subst hj
  have hp : p < x.length := by have := (List.getElem?_eq_some_iff.mp hx).1; simpa [Str.length] using this
  have e := PySem.StrLaws.sliced_plain x (a := p) (b := p + 1) (by lsm_bools) (by lsm_bools)
  have e2 : (x.cps.toList.drop p).take (p + 1 - p) = [ch] := by
    have : p + 1 - p = 1 := by lsm_bools
    rw [this]
    obtain ⟨h1, h2⟩ := List.getElem?_eq_some_iff.mp hx
    rw [List.drop_eq_getElem_cons h1, h2]; rfl
  refine ⟨"str", _, PySem.F.slot_str_getitem.lookup, sl_str (lo := some (p : Int)) (hi := some ((p + 1 : Nat) : Int)) rfl rfl hz ?_ ?_ (by show 1 ≤ _; lsm_bools) h⟩
  · rw [e, e2]
  · intro hl
    rw [PySem.StrLaws.strSliceIndices_plain (by lsm_bools) (by lsm_bools), List.length_map, List.length_range] at hl
    have h1 : p = 0 := by lsm_bools
    subst h1
    apply Str.ext'
    apply Array.toList_inj.mp
    have : x.cps.toList.length = 1 := by rw [Array.length_toList]; show x.length = 1; lsm_bools
    match q : x.cps.toList, this with
    | [a], _ => rw [q] at hx; simp at hx; subst hx; rfl
theorem sl_cut {ch a : Nat} {Q : AV → St → Prop} (h : Q (.str ⟨#[ch]⟩) st) : ∃ T id, typeLookup (.type T) "__getitem__" = pure (some (.builtin id)) ∧ SliceR W c st T (.str (⟨#[ch]⟩ ++ ⟨#[a]⟩)) .none (.int (-1)) Q := by
  refine ⟨"str", _, PySem.F.slot_str_getitem.lookup, sl_str (lo := none) (hi := some (-1)) rfl rfl (by show 2 ≤ _; lsm_bools) ?_ ?_ (by show 1 ≤ _; lsm_bools) h⟩
  · have : Builtin.Str.strSliceIndices none (some (-1)) 1 (⟨#[ch]⟩ ++ ⟨#[a]⟩ : Str).length = [0] := by show Builtin.Str.strSliceIndices none (some (-1)) 1 2 = [0]; decide
    rw [this]; rfl
  · intro hl
    have : Builtin.Str.strSliceIndices none (some (-1)) 1 (⟨#[ch]⟩ ++ ⟨#[a]⟩ : Str).length = [0] := by show Builtin.Str.strSliceIndices none (some (-1)) 1 2 = [0]; decide
    rw [this] at hl; cases hl
end
theorem spec_check {w : World} {c : Cx} {st : St} {k d : Nat} {x : Str} {l : List (Str × AV)} {Q : AV → St → Prop} (hr : 1 ≤ c.room) (hk : st.os[k]? = some (.inst 717 d)) (hd : st.os[d]? = some (.dict l)) (hl : l.lookup (Str.ofString "_StringIO__buf") = some (.str x))
    (h : Q .none st) : CodeV (WW w) c st (.ref 501) [.obj k] [] Q := by
  (refine' code_fn (m0 := [(Str.ofString "self", .obj k)]) (news := []) ?ho ?hcd ?room ?hb ?hm ?hloc ?c1 ?c2 ?c3 ?c4 ?_; (case ho => (((try dsimp only [WW]); k_is))); (case hcd => (((try dsimp only [WW]); k_is))); (case c1 => exact rfl); (case c2 => exact rfl); (case c3 => exact rfl); (case c4 => decide); (case hm => (simp only [List.map_cons, List.map_nil]; decide)); (case hloc => (simp only [List.map_cons, List.map_nil]; decide)); (case room => (first | lsm_bools | (show 1 ≤ c.room - 1; lsm_bools))))
  case hb => exact BindV.one fun v => by kernel_rfl
  intro c' hs hcl hrm
  rw [List.append_nil]
  repeat' (first | tb_start | with_reducible first | refine ex_cons ?_ | refine ex_If ?_)
  exact h
theorem spec_index {w : World} {c : Cx} {st : St} {n : Int} {y : Str} {Q : AV → St → Prop} (hr : 1 ≤ c.room) (hn : n.natAbs ≤ 100000) (h : Q (.int n) st) : CodeV (WW w) c st (.ref 183) [.int n, .str y] [] Q := by
  (refine' code_fn (m0 := [(Str.ofString "n", .int n), (Str.ofString "what", .str y)]) (news := []) ?ho ?hcd ?room ?hb ?hm ?hloc ?c1 ?c2 ?c3 ?c4 ?_; (case ho => (((try dsimp only [WW]); k_is))); (case hcd => (((try dsimp only [WW]); k_is))); (case c1 => exact rfl); (case c2 => exact rfl); (case c3 => exact rfl); (case c4 => decide); (case hm => (simp only [List.map_cons, List.map_nil]; decide)); (case hloc => (simp only [List.map_cons, List.map_nil]; decide)); (case room => (first | lsm_bools | (show 1 ≤ c.room - 1; lsm_bools))))
  case hb => exact BindV.two fun v u => by kernel_rfl
  intro c' hs hcl hrm
  rw [List.append_nil]
  repeat' (first | tb_start | with_reducible first | refine ex_cons ?_ | refine ex_If ?_)
  refine call_intI ?_
  repeat' (first | tb_start | with_reducible first | refine ex_cons ?_ | refine ex_If ?_)
  refine ⟨fun hq => ?_, fun _ => ?_⟩
  · exact absurd hq (by simp; lsm_bools)
  repeat' (first | tb_start | with_reducible first | refine ex_cons ?_ | refine ex_If ?_)
  refine ⟨fun hq => ?_, fun _ => ?_⟩
  · exact absurd hq (by simp; lsm_bools)
  repeat' (first | tb_start | with_reducible first | refine ex_cons ?_ | refine ex_If ?_)
  exact h
theorem spec_read {w : World} {c : Cx} {st : St} {k d p : Nat} {x : Str} {Q : AV → St → Prop} (hr : 2 ≤ c.room) (hk : st.os[k]? = some (.inst 717 d)) (hd : st.os[d]? = some (.dict (sioD x p))) (hz : x.length ≤ 100000) (hp : p ≤ x.length)
    (h1 : ∀ (os' : List AO) (ch : Nat), x.cps.toList[p]? = some ch → ExtB d st.os os' → os'[d]? = some (.dict (sioD x (p + 1))) → Q (.str ⟨#[ch]⟩) { st with os := os' })
    (h0 : x.cps.toList[p]? = none → Q (.str (Str.ofString "")) st) : CodeV (WW w) c st (.ref 663) [.obj k, .int 1] [] Q := by
  (refine' code_fn (m0 := [(Str.ofString "self", .obj k), (Str.ofString "size", .int 1)]) (news := []) ?ho ?hcd ?room ?hb ?hm ?hloc ?c1 ?c2 ?c3 ?c4 ?_; (case ho => (((try dsimp only [WW]); k_is))); (case hcd => (((try dsimp only [WW]); k_is))); (case c1 => exact rfl); (case c2 => exact rfl); (case c3 => exact rfl); (case c4 => decide); (case hm => (simp only [List.map_cons, List.map_nil]; decide)); (case hloc => (simp only [List.map_cons, List.map_nil]; decide)); (case room => (first | lsm_bools | (show 1 ≤ c.room - 1; lsm_bools))))
  case hb =>
    refine BindV.of fun ρ s vs ks X hv hk => ?_
    obtain ⟨v1, _, rfl, h1, v2, _, rfl, h2, rfl⟩ := hv
    cases hk
    exact ⟨_, binds_K X rfl (by (((try dsimp only [WW]); k_is))) rfl rfl rfl, ⟨_, _, rfl, h1, _, _, rfl, h2, rfl⟩⟩
  intro c' hs hcl hrm
  rw [List.append_nil]
  have hxl : x.cps.toList.length = x.length := by rw [Array.length_toList]; rfl
  repeat' (first | tb_start | with_reducible first | refine ex_cons ?_ | refine ex_If ?_)
  refine CodeV.call (spec_index (by lsm_bools) (by decide) ?_)
  repeat' (first | tb_start | with_reducible first | refine ex_cons ?_ | refine ex_If ?_)
  ((refine' getM_inst ?hk ?hd ?hg ?hf ?ht ?hl ?hkeep ?_; (case hk => with_reducible assumption); (case hd => with_reducible assumption); (case hg => (((try dsimp only [WW]); k_is))); (case hf => (((try dsimp only [WW]); k_is))); (case ht => (((try dsimp only [WW]); k_is))); (case hl => kct_strs); (case hkeep => (first | exact keep_B | exact keep_T | exact keep_K (by (((try dsimp only [WW]); k_is)))))))
  repeat' (first | tb_start | with_reducible first | refine ex_cons ?_ | refine ex_If ?_)
  refine CodeV.call (spec_check (by lsm_bools) hk hd rfl ?_)
  repeat' (first | tb_start | with_reducible first | refine ex_cons ?_ | refine ex_If ?_)
  refine call_lenS (by lsm_bools) ?_
  repeat' (first | tb_start | with_reducible first | refine ex_cons ?_ | refine ex_If ?_)
  refine ⟨fun hq => ?_, fun hq => ?_⟩
  · have hge : x.length ≤ p := by simpa using hq
    repeat' (first | tb_start | with_reducible first | refine ex_cons ?_ | refine ex_If ?_)
    exact h0 (by rw [List.getElem?_eq_none_iff]; lsm_bools)
  · have hlt : p < x.length := by simp at hq; exact_mod_cast hq
    obtain ⟨ch, hch⟩ : ∃ ch, x.cps.toList[p]? = some ch := ⟨_, List.getElem?_eq_getElem (by lsm_bools)⟩
    repeat' tb_start
    refine ex_cons ?_
    refine ex_J (fun st5 => st5.os = st.os ∧ st5.gn = st.gn ∧ st5.m.lookup (Str.ofString "self") = some (.obj k) ∧ st5.m.lookup (Str.ofString "start") = some (.int (p : Nat)) ∧ st5.m.lookup (Str.ofString "stop") = some (.int ((p : Int) + 1))) ?_ ?_
    · repeat' (first | tb_start | with_reducible first | refine ex_cons ?_ | refine ex_If ?_)
      refine ⟨fun hq => ?_, fun hq => ?_⟩
      · have : ((x.length : Nat) : Int) = (p : Int) + 1 := by simp at hq; lsm_bools
        rw [this]
        repeat' (first | tb_start | with_reducible first | refine ex_cons ?_ | refine ex_If ?_)
        exact ⟨rfl, rfl, rfl, by kct_strs, by kct_strs, by kct_strs⟩
      · repeat' (first | tb_start | with_reducible first | refine ex_cons ?_ | refine ex_If ?_)
        exact ⟨rfl, rfl, rfl, by kct_strs, by kct_strs, by kct_strs⟩
    · rintro ⟨mm, oo, gg⟩ ⟨rfl, rfl, hs1, hs2, hs3⟩
      try dsimp only at hs1 hs2 hs3
      repeat' (first | tb_start | with_reducible first | refine ex_cons ?_ | refine ex_If ?_)
      intro os1 hk1 hd1 he1
      repeat' (first | tb_start | with_reducible first | refine ex_cons ?_ | refine ex_If ?_)
      have hd1 : os1[d]? = some (.dict (sioD x (p + 1))) := hd1
      refine sl_one hch (by lsm_bools) rfl (by push_cast; rfl) ?_
      repeat' (first | tb_start | with_reducible first | refine ex_cons ?_ | refine ex_If ?_)
      refine op_addS (by show 1 + 1 ≤ _; lsm_bools) ?_
      repeat' (first | tb_start | with_reducible first | refine ex_cons ?_ | refine ex_If ?_)
      refine sl_cut (a := 32) ?_
      repeat' (first | tb_start | with_reducible first | refine ex_cons ?_ | refine ex_If ?_)
      exact h1 os1 ch hch he1 hd1
-- WM
namespace MD
theorem owner_dq : Manifest.owners.lookup (String.ofList "collections.deque".toList.reverse.reverse) = some Manifest.sig_collections_deque := by kernel_rfl
theorem slot_init : Slot "collections.deque" "__init__" "collections.deque.__init__" :=
  .of (owner := "collections.deque") (n := "__init__") (by rw [typeLookup_type, builtinLookup_eq_fast]; kernel_rfl) (by decide +kernel) (by decide +kernel) (by decide +kernel)
    (by first | exact .inl (by decide +kernel) | exact .inr (by decide +kernel)) (by rw [isSubtype_type]; kernel_rfl)
theorem slot_len : Slot "collections.deque" "__len__" "collections.deque.__len__" :=
  .of (owner := "collections.deque") (n := "__len__") (by rw [typeLookup_type, builtinLookup_eq_fast]; kernel_rfl) (by decide +kernel) (by decide +kernel) (by decide +kernel)
    (by first | exact .inl (by decide +kernel) | exact .inr (by decide +kernel)) (by rw [isSubtype_type]; kernel_rfl)
theorem entry_new : entryFor table "collections.deque.__new__" = some Builtin.«collections.deque.__new__» := entryFor_of_tree (by kernel_rfl)
theorem entry_init : entryFor table "collections.deque.__init__" = some Builtin.«collections.deque.__init__» := entryFor_of_tree (by kernel_rfl)
theorem entry_len : entryFor table "collections.deque.__len__" = some Builtin.«collections.deque.__len__» := entryFor_of_tree (by kernel_rfl)
theorem args_len (a : Value) : argsOk "collections.deque.__len__" ⟨[a], []⟩ := by unfold argsOk; kernel_rfl
theorem args_init (a : Value) : argsOk "collections.deque.__init__" ⟨[a], []⟩ := by unfold argsOk; kernel_rfl
theorem mro : mroOf (.type "collections.deque") = pure [.type "collections.deque", .type "object"] := by rw [mroOf_type]; kernel_rfl
theorem lookup_new : typeLookup (.type "collections.deque") "__new__" = pure (some (.builtin "collections.deque.__new__")) := by rw [typeLookup_type, builtinLookup_eq_fast]; kernel_rfl
theorem sub : isSubtype (.type "collections.deque") (.type "collections.deque") = pure true := by rw [isSubtype_type]; kernel_rfl
theorem called : TypeCalled "collections.deque" "collections.deque.__new__" "collections.deque.__init__" :=
  ⟨by decide +kernel, by decide +kernel, ⟨_, _, mro⟩, madeBy_type mro lookup_new (by decide +kernel), by decide +kernel, sub, slot_init⟩
theorem typeCall : checkTypeCall "collections.deque" ⟨[], []⟩ = pure () := by kernel_rfl
theorem newCall : checkBuiltinCall "collections.deque.__new__" ⟨[.type "collections.deque"], []⟩ = pure () := by kernel_rfl
theorem noBool : typeLookup (.type "collections.deque") "__bool__" = pure none := by rw [typeLookup_type, builtinLookup_eq_fast]; kernel_rfl
end MD
noncomputable def dqObj : Obj := { cls := .type "collections.deque", dict := none, data := .fields #[.none, rawInt 0], slots := #[] }
noncomputable def dqO : AO := .raw dqObj
theorem meets_dq_new : Meets (Builtin.«collections.deque.__new__» ⟨[.type "collections.deque"], []⟩) (fun _ R s => R (.ok (.ret (.ref s.heap.objs.size))) { s with heap := s.heap.push dqObj }) :=
  .of_wp fun prog w A R s h => by
    obtain ⟨hp, g, d, tk, os⟩ := s
    have hsub : isSubtype (.type "collections.deque") (.type Builtin.Deque.ty) = pure true := MD.sub
    unfold Builtin.«collections.deque.__new__»
    wp_walk
    exact ⟨_, rfl, h⟩
theorem meets_dq_init (a : Addr) : Meets (Builtin.«collections.deque.__init__» ⟨[.ref a], []⟩) (fun _ R s => s.heap.get? a = some dqObj ∧ ∀ h', Heap.SameBut a s.heap h' → h'.get? a = some dqObj → R (.ok (.ret .none)) { s with heap := h' }) :=
  .of_wp fun prog w A R s h => by
    obtain ⟨hp, g, d, tk, os⟩ := s
    obtain ⟨ho, h⟩ := h
    show wpAny _ _ (setField (.ref a) 0 .none >>= fun _ => Builtin.Deque.clear (.ref a) >>= fun _ => ret .none) _ _ _
    refine wpAny_bind (wpAny_setField_rec ho (by decide) fun h1 g1 s1 => ?_)
    unfold Builtin.Deque.clear Builtin.Deque.items
    refine wpAny_bind (wpAny_bind (wpAny_bind (wpAny_fieldsOf g1 rfl (wpAny_pure ?_))))
    refine wpAny_pure ?_
    exact wpAny_pure ⟨_, rfl, h h1 s1 g1⟩
section
variable {W : Wd} {c : Cx} {st : St}
theorem call_deque {Q : AV → St → Prop} (h : Q (.obj st.os.length) { st with os := st.os ++ [dqO] }) : CallV W c st (.type "collections.deque") [] Q := fun ρ s E vs r hv => by
  cases hv
  refine callType_meets (Q₁ := fun obj s1 => obj = .ref s.heap.objs.size ∧ s1 = { s with heap := s.heap.push dqObj }) MD.called MD.typeCall MD.newCall MD.entry_new MD.entry_init meets_dq_new ⟨rfl, rfl⟩ fun obj s1 h1 => ?_
  obtain ⟨rfl, rfl⟩ := h1
  have hg : (s.heap.push dqObj).get? s.heap.objs.size = some dqObj := Heap.get?_push_size _ rfl
  refine ⟨⟨_, hg, rfl⟩, MD.args_init _, _, meets_dq_init _, hg, fun h' hs hg' => ⟨rfl, ?_⟩⟩
  have r1 := r.alloc (o := dqO) (ob := dqObj) rfl rfl
  have hk : (ρ ++ [s.heap.objs.size])[st.os.length]? = some s.heap.objs.size := by rw [← r.objs.len]; simp
  have r2 := r1.change (n := s.toks) (o' := dqO) hk hs hg' rfl
  refine ⟨[s.heap.objs.size], .obj st.os.length, _, r2, ⟨_, hk, rfl⟩, ?_⟩
  have e : (st.os ++ [dqO]).set st.os.length dqO = st.os ++ [dqO] := by
    rw [List.set_append_right _ _ (Nat.le_refl _)]; simp
  show Q _ { st with os := (st.os ++ [dqO]).set st.os.length dqO }
  rw [e]; exact h
theorem tr_dq {k : Nat} {Q : Bool → St → Prop} (hk : st.os[k]? = some dqO) (h : Q false st) : Op1 W c BR st (.obj k) truthy Q := fun ρ s E v r hv => by
  obtain ⟨a, ob, e1, h1, h2, h3⟩ := r.at_ hk hv
  subst e1; cases h3
  have hT : s.TypeIs (.ref a) "collections.deque" := ⟨_, h2, rfl⟩
  have key : wpAny W.M c.A (runValue (.builtin "len" ⟨[.ref a], []⟩)) (fun r s' => r = .int 0 (s.toks + 1) ∧ Post W c BR ρ Q false s') E s := by
    refine wpAny_runValue (codeAny_builtin entry_len ?_)
    rw [Around.under_plainId plain_len _]
    unfold Builtin.«len»
    refine wpAny_bind (m := oneArg "len" _) (wpAny_pure ?_)
    refine wpAny_bind (m := callSpecial? (.ref a) (Str.ofString "__len__")) (wpAny_callSpecial?_slot (name := Str.ofString "__len__") hT MD.slot_len
      (wpAny_call_entry MD.slot_len hT MD.entry_len ?_ (MD.args_len _)))
    show wpAny _ _ (Builtin.Deque.size (.ref a) >>= fun n => retInt n) _ _ s
    unfold Builtin.Deque.size
    refine wpAny_bind (wpAny_bind (wpAny_fieldsOf h2 rfl (wpAny_pure ?_)))
    refine wpAny_bind (wpAny_mkInt (wpAny_pure ⟨_, rfl, ?_⟩))
    refine wpAny_bind (wpAny_holding (wpAny_pure ?_))
    refine wpAny_bind (wpAny_letGo ?_)
    show wpAny _ _ (if ((0 : Nat) : Int) < 0 then _ else _) _ _ _
    rw [if_neg (by lsm_bools)]
    show wpAny _ _ (if ((0 : Nat) : Int) ≥ 2 ^ 63 then _ else _) _ _ _
    rw [if_neg (by lsm_bools)]
    exact wpAny_bind (wpAny_mkInt (wpAny_pure ⟨rfl, Post.here h (r.toks _) (show false = false from rfl)⟩))
  unfold truthy
  first
    | refine wpAny_bind (wpAny_callSpecial?_none (name := Str.ofString "__bool__") hT MD.noBool ?_)
    | refine wpAny_bind (wpAny_pure (wpAny_bind (wpAny_callSpecial?_none (name := Str.ofString "__bool__") hT MD.noBool ?_)))
  first
    | refine wpAny_bind (wpAny_specialOf (name := Str.ofString "__len__") hT MD.slot_len.lookup ?_)
    | refine wpAny_bind (wpAny_pure (wpAny_bind (wpAny_specialOf (name := Str.ofString "__len__") hT MD.slot_len.lookup ?_)))
  first
    | exact wpAny_bind (wpAny_mono key (fun r s' h' => by obtain ⟨rfl, hq⟩ := h'; exact wpAny_pure hq) fun _ _ e => e)
    | exact wpAny_bind (wpAny_pure (wpAny_bind (wpAny_mono key (fun r s' h' => by obtain ⟨rfl, hq⟩ := h'; exact wpAny_pure hq) fun _ _ e => e)))
end
-- EL
theorem CallK.call {W : Wd} {c : Cx} {st : St} {f : Value} {as : List AV} {Q : AV → St → Prop} (h : CallK W c st f as [] Q) : CallV W c st f as Q := fun ρ s E vs r hv => h ρ s E vs [] r hv rfl
section
variable {W : Wd} {c : Cx} {st : St}
theorem tt_pN {x : Str} {pos : Pos} {Q : Bool → St → Prop} (h : Ev W c st (eval (.Name x pos) c.env) (TruQ W c Q)) : Tt W c st (isTrue (.Name x pos) c.env (eval (.Name x pos) c.env)) Q := tt_plain rfl h
theorem tt_pA {e : Expr} {x : Str} {pos : Pos} {Q : Bool → St → Prop} (h : Ev W c st (eval (.Attribute e x pos) c.env) (TruQ W c Q)) : Tt W c st (isTrue (.Attribute e x pos) c.env (eval (.Attribute e x pos) c.env)) Q := tt_plain rfl h
theorem tt_pC {e : Expr} {as : List Expr} {ks : List Keyword} {pos : Pos} {Q : Bool → St → Prop} (h : Ev W c st (eval (.Call e as ks pos) c.env) (TruQ W c Q)) : Tt W c st (isTrue (.Call e as ks pos) c.env (eval (.Call e as ks pos) c.env)) Q := tt_plain rfl h
end
local macro_rules | `(tactic| kp_flats) => rows1 "tt_pN,tt_pA,tt_pC"
local macro_rules | `(tactic| kpt_turns) => rows1 "~tr_str D"
noncomputable def wcA : Str := Str.ofString "abcdfeghijklmnopqrstuvwxyzABCDEFGHIJKLMNOPQRSTUVWXYZ0123456789_"
noncomputable def wcB : Str := Str.ofString "ßàáâãäåæçèéêëìíîïðñòóôõöøùúûüýþÿÀÁÂÃÄÅÆÇÈÉÊËÌÍÎÏÐÑÒÓÔÕÖØÙÚÛÜÝÞ"
/-- what a lexer holds -/
noncomputable abbrev shxD (ki pb fs : Nat) (ws : Bool) (cm : Str) (state : AV) (token : Str) : List (Str × AV) :=
  [(Str.ofString "instream", .obj ki), (Str.ofString "infile", .none), (Str.ofString "posix", .bool true), (Str.ofString "eof", .none), (Str.ofString "commenters", .str cm), (Str.ofString "wordchars", .str (wcA ++ wcB)), (Str.ofString "whitespace", .str (Str.ofString " \t\r\n")),
    (Str.ofString "whitespace_split", .bool ws), (Str.ofString "quotes", .str (Str.ofString "'\"")), (Str.ofString "escape", .str (Str.ofString "\\")), (Str.ofString "escapedquotes", .str (Str.ofString "\"")), (Str.ofString "state", state), (Str.ofString "pushback", .obj pb),
    (Str.ofString "lineno", .int 1), (Str.ofString "debug", .int 0), (Str.ofString "token", .str token), (Str.ofString "filestack", .obj fs), (Str.ofString "source", .none), (Str.ofString "_punctuation_chars", .str (Str.ofString ""))]
section
variable {ki pb fs : Nat} {ws : Bool} {cm tk : Str} {st : AV}
theorem lx0 : (shxD ki pb fs ws cm st tk).lookup (Str.ofString "instream") = some (.obj ki) := rfl
theorem lx1 : (shxD ki pb fs ws cm st tk).lookup (Str.ofString "infile") = some (.none) := rfl
theorem lx2 : (shxD ki pb fs ws cm st tk).lookup (Str.ofString "posix") = some (.bool true) := rfl
theorem lx3 : (shxD ki pb fs ws cm st tk).lookup (Str.ofString "eof") = some (.none) := rfl
theorem lx4 : (shxD ki pb fs ws cm st tk).lookup (Str.ofString "commenters") = some (.str cm) := rfl
theorem lx5 : (shxD ki pb fs ws cm st tk).lookup (Str.ofString "wordchars") = some (.str (wcA ++ wcB)) := rfl
theorem lx6 : (shxD ki pb fs ws cm st tk).lookup (Str.ofString "whitespace") = some (.str (Str.ofString " \t\r\n")) := rfl
theorem lx7 : (shxD ki pb fs ws cm st tk).lookup (Str.ofString "whitespace_split") = some (.bool ws) := rfl
theorem lx8 : (shxD ki pb fs ws cm st tk).lookup (Str.ofString "quotes") = some (.str (Str.ofString "'\"")) := rfl
theorem lx9 : (shxD ki pb fs ws cm st tk).lookup (Str.ofString "escape") = some (.str (Str.ofString "\\")) := rfl
theorem lx10 : (shxD ki pb fs ws cm st tk).lookup (Str.ofString "escapedquotes") = some (.str (Str.ofString "\"")) := rfl
theorem lx11 : (shxD ki pb fs ws cm st tk).lookup (Str.ofString "state") = some (st) := rfl
theorem lx12 : (shxD ki pb fs ws cm st tk).lookup (Str.ofString "pushback") = some (.obj pb) := rfl
theorem lx13 : (shxD ki pb fs ws cm st tk).lookup (Str.ofString "lineno") = some (.int 1) := rfl
theorem lx14 : (shxD ki pb fs ws cm st tk).lookup (Str.ofString "debug") = some (.int 0) := rfl
theorem lx15 : (shxD ki pb fs ws cm st tk).lookup (Str.ofString "token") = some (.str tk) := rfl
theorem lx16 : (shxD ki pb fs ws cm st tk).lookup (Str.ofString "filestack") = some (.obj fs) := rfl
theorem lx17 : (shxD ki pb fs ws cm st tk).lookup (Str.ofString "source") = some (.none) := rfl
theorem lx18 : (shxD ki pb fs ws cm st tk).lookup (Str.ofString "_punctuation_chars") = some (.str (Str.ofString "")) := rfl
end
local macro_rules | `(tactic| kct_strs) => do
  let a ← rows1 "!lx0,!lx1,!lx2,!lx3,!lx4,!lx5,!lx6,!lx7,!lx8,!lx9,!lx10,!lx11,!lx12,!lx13,!lx14,!lx15,!lx16,!lx17,!lx18"
  let h ← `(term| _)
  onShow (Lean.Syntax.mkApp (Lean.mkIdent `Eq) #[Lean.Syntax.mkApp (Lean.mkIdent `List.lookup) #[h, Lean.Syntax.mkApp (Lean.mkIdent `shxD) (.replicate 7 h)], h]) a
/-- StringIO(text) as a call -/
theorem spec_sio {w : World} {c : Cx} {st : St} {x : Str} {Q : AV → St → Prop} (hr : 5 ≤ c.room)
    (h : ∀ (os' : List AO) (j d : Nat), Ext st.os os' → st.os.length ≤ d → st.os.length ≤ j → os'[j]? = some (.inst 717 d) → os'[d]? = some (.dict (sioD x 0)) → Q (.obj j) { st with os := os' }) : CallV (WW w) c st (.ref 717) [.str x] Q := by
  refine CallK.call ?_
  refine call_makeN (C := 717) (fI := 487) (p := 214) (new := .ref 210) (by (((try dsimp only [WW]); k_is))) rfl (by (((try dsimp only [WW]); k_is))) (by (((try dsimp only [WW]); k_is))) (fun S => by kernel_rfl) (fun S => by kernel_rfl) (by (((try dsimp only [WW]); k_is))) (by (((try dsimp only [WW]); k_is))) (by (((try dsimp only [WW]); k_is))) rfl (by (((try dsimp only [WW]); k_is))) (by (((try dsimp only [WW]); k_is))) (by lsm_bools) fun k => ?_
  refine CodeV.callK (spec_ionew (by show 2 ≤ c.room - 1; lsm_bools) fun os1 j d he hd hj h1 h2 => ?_)
  refine ⟨j, d, rfl, h1, spec_sio_init (by show 3 ≤ c.room - 1; lsm_bools) h1 h2 fun os2 he2 h3 => ⟨rfl, ?_⟩⟩
  exact h os2 j d (he.extB he2 hd) hd (by lsm_bools) (he2 _ _ (by lsm_bools) h1) h3
theorem spec_shx_init {w : World} {c : Cx} {st : St} {k d : Nat} {x : Str} {Q : AV → St → Prop} (hr : 7 ≤ c.room) (hk : st.os[k]? = some (.inst 852 d)) (hd : st.os[d]? = some (.dict []))
    (h : ∀ (os' : List AO) (ki di pb fs : Nat), ExtB d st.os os' → st.os.length ≤ di → st.os.length ≤ ki → os'[ki]? = some (.inst 717 di) → os'[di]? = some (.dict (sioD x 0)) → os'[pb]? = some dqO → os'[fs]? = some dqO →
      os'[d]? = some (.dict (shxD ki pb fs false (Str.ofString "#") (.str (Str.ofString " ")) (Str.ofString ""))) → Q .none { st with os := os' }) : CodeV (WW w) c st (.ref 776) [.obj k, .str x] [(Str.ofString "posix", .bool true)] Q := by
  (refine' code_fn (m0 := [(Str.ofString "self", .obj k), (Str.ofString "instream", .str x), (Str.ofString "infile", .none), (Str.ofString "posix", .bool true), (Str.ofString "punctuation_chars", .bool false)]) (news := []) ?ho ?hcd ?room ?hb ?hm ?hloc ?c1 ?c2 ?c3 ?c4 ?_; (case ho => (((try dsimp only [WW]); k_is))); (case hcd => (((try dsimp only [WW]); k_is))); (case c1 => exact rfl); (case c2 => exact rfl); (case c3 => exact rfl); (case c4 => decide); (case hm => (simp only [List.map_cons, List.map_nil]; decide)); (case hloc => (simp only [List.map_cons, List.map_nil]; decide)); (case room => (first | lsm_bools | (show 1 ≤ c.room - 1; lsm_bools))))
  case hb =>
    refine BindV.of fun ρ s vs ks X hv hk => ?_
    obtain ⟨v1, _, rfl, h1, v2, _, rfl, h2, rfl⟩ := hv
    obtain ⟨u1, _, rfl, g1, rfl⟩ := hk
    exact ⟨_, binds_K X rfl (by (((try dsimp only [WW]); k_is))) rfl rfl rfl, ⟨_, _, rfl, h1, _, _, rfl, h2, _, _, rfl, rfl, _, _, rfl, g1, _, _, rfl, rfl, rfl⟩⟩
  intro c' hs hcl hrm
  rw [List.append_nil]
  repeat' (first | tb_start | with_reducible first | refine ex_cons ?_ | refine ex_If ?_)
  refine call_isiSS ?_
  repeat' (first | tb_start | with_reducible first | refine ex_cons ?_ | refine ex_If ?_)
  refine spec_sio (by lsm_bools) fun os1 ki di he1 hdi hki hi1 hj1 => ?_
  have hk1 := he1 _ _ hk
  have hd1 := he1 _ _ hd
  repeat' (first | tb_start | with_reducible first | refine ex_cons ?_ | refine ex_If ?_)
  have heE1 : ExtB d st.os os1 := ExtB.of he1
  have hdl : d < st.os.length := (List.getElem?_eq_some_iff.mp hd).1
  dsimp only at hdi hki
  have hne1 : ki ≠ d := by lsm_bools
  have hne2 : di ≠ d := by lsm_bools
  intro os2 hk2 hd2 he2
  have hi2 := he2 _ _ hne1 hi1
  have hj2 := he2 _ _ hne2 hj1
  have heE2 := heE1.trans he2
  clear hk1 hd1 he2 hi1 hj1 heE1
  repeat' (first | tb_start | with_reducible first | refine ex_cons ?_ | refine ex_If ?_)
  intro os3 hk3 hd3 he3
  have hi3 := he3 _ _ hne1 hi2
  have hj3 := he3 _ _ hne2 hj2
  have heE3 := heE2.trans he3
  clear hk2 hd2 he3 hi2 hj2 heE2
  repeat' (first | tb_start | with_reducible first | refine ex_cons ?_ | refine ex_If ?_)
  intro os4 hk4 hd4 he4
  have hi4 := he4 _ _ hne1 hi3
  have hj4 := he4 _ _ hne2 hj3
  have heE4 := heE3.trans he4
  clear hk3 hd3 he4 hi3 hj3 heE3
  repeat' (first | tb_start | with_reducible first | refine ex_cons ?_ | refine ex_If ?_)
  intro os5 hk5 hd5 he5
  have hi5 := he5 _ _ hne1 hi4
  have hj5 := he5 _ _ hne2 hj4
  have heE5 := heE4.trans he5
  clear hk4 hd4 he5 hi4 hj4 heE4
  repeat' (first | tb_start | with_reducible first | refine ex_cons ?_ | refine ex_If ?_)
  intro os6 hk6 hd6 he6
  have hi6 := he6 _ _ hne1 hi5
  have hj6 := he6 _ _ hne2 hj5
  have heE6 := heE5.trans he6
  clear hk5 hd5 he6 hi5 hj5 heE5
  repeat' (first | tb_start | with_reducible first | refine ex_cons ?_ | refine ex_If ?_)
  intro os7 hk7 hd7 he7
  have hi7 := he7 _ _ hne1 hi6
  have hj7 := he7 _ _ hne2 hj6
  have heE7 := heE6.trans he7
  clear hk6 hd6 he7 hi6 hj6 heE6
  repeat' (first | tb_start | with_reducible first | refine ex_cons ?_ | refine ex_If ?_)
  refine op_iaddS (by decide) ?_
  repeat' (first | tb_start | with_reducible first | refine ex_cons ?_ | refine ex_If ?_)
  intro os8 hk8 hd8 he8
  have hi8 := he8 _ _ hne1 hi7
  have hj8 := he8 _ _ hne2 hj7
  have heE8 := heE7.trans he8
  clear hk7 hd7 he8 hi7 hj7 heE7
  repeat' (first | tb_start | with_reducible first | refine ex_cons ?_ | refine ex_If ?_)
  intro os9 hk9 hd9 he9
  have hi9 := he9 _ _ hne1 hi8
  have hj9 := he9 _ _ hne2 hj8
  have heE9 := heE8.trans he9
  clear hk8 hd8 he9 hi8 hj8 heE8
  repeat' (first | tb_start | with_reducible first | refine ex_cons ?_ | refine ex_If ?_)
  intro os10 hk10 hd10 he10
  have hi10 := he10 _ _ hne1 hi9
  have hj10 := he10 _ _ hne2 hj9
  have heE10 := heE9.trans he10
  clear hk9 hd9 he10 hi9 hj9 heE9
  repeat' (first | tb_start | with_reducible first | refine ex_cons ?_ | refine ex_If ?_)
  intro os11 hk11 hd11 he11
  have hi11 := he11 _ _ hne1 hi10
  have hj11 := he11 _ _ hne2 hj10
  have heE11 := heE10.trans he11
  clear hk10 hd10 he11 hi10 hj10 heE10
  repeat' (first | tb_start | with_reducible first | refine ex_cons ?_ | refine ex_If ?_)
  intro os12 hk12 hd12 he12
  have hi12 := he12 _ _ hne1 hi11
  have hj12 := he12 _ _ hne2 hj11
  have heE12 := heE11.trans he12
  clear hk11 hd11 he12 hi11 hj11 heE11
  repeat' (first | tb_start | with_reducible first | refine ex_cons ?_ | refine ex_If ?_)
  intro os13 hk13 hd13 he13
  have hi13 := he13 _ _ hne1 hi12
  have hj13 := he13 _ _ hne2 hj12
  have heE13 := heE12.trans he13
  clear hk12 hd12 he13 hi12 hj12 heE12
  repeat' (first | tb_start | with_reducible first | refine ex_cons ?_ | refine ex_If ?_)
  intro os14 hk14 hd14 he14
  have hi14 := he14 _ _ hne1 hi13
  have hj14 := he14 _ _ hne2 hj13
  have heE14 := heE13.trans he14
  clear hk13 hd13 he14 hi13 hj13 heE13
  repeat' (first | tb_start | with_reducible first | refine ex_cons ?_ | refine ex_If ?_)
  refine call_deque ?_
  dsimp only
  have heA : Ext os14 (os14 ++ [dqO]) := Ext.app _ _
  have hp15 : (os14 ++ [dqO])[os14.length]? = some dqO := app_at
  have hk15 := heA _ _ hk14
  have hd15 := heA _ _ hd14
  have hi15 := heA _ _ hi14
  have hj15 := heA _ _ hj14
  have heE15 := heE14.ext heA
  have hne3 : os14.length ≠ d := by have := (List.getElem?_eq_some_iff.mp hd14).1; lsm_bools
  generalize os14.length = pb at *
  generalize os14 ++ [dqO] = os15 at *
  clear hk14 hd14 hi14 hj14 heE14 heA
  repeat' (first | tb_start | with_reducible first | refine ex_cons ?_ | refine ex_If ?_)
  intro os16 hk16 hd16 he16
  have hi16 := he16 _ _ hne1 hi15
  have hj16 := he16 _ _ hne2 hj15
  have heE16 := heE15.trans he16
  have hp16 := he16 _ _ hne3 hp15
  clear hk15 hd15 he16 hi15 hj15 heE15 hp15
  repeat' (first | tb_start | with_reducible first | refine ex_cons ?_ | refine ex_If ?_)
  intro os17 hk17 hd17 he17
  have hi17 := he17 _ _ hne1 hi16
  have hj17 := he17 _ _ hne2 hj16
  have heE17 := heE16.trans he17
  have hp17 := he17 _ _ hne3 hp16
  clear hk16 hd16 he17 hi16 hj16 heE16 hp16
  repeat' (first | tb_start | with_reducible first | refine ex_cons ?_ | refine ex_If ?_)
  intro os18 hk18 hd18 he18
  have hi18 := he18 _ _ hne1 hi17
  have hj18 := he18 _ _ hne2 hj17
  have heE18 := heE17.trans he18
  have hp18 := he18 _ _ hne3 hp17
  clear hk17 hd17 he18 hi17 hj17 heE17 hp17
  repeat' (first | tb_start | with_reducible first | refine ex_cons ?_ | refine ex_If ?_)
  intro os19 hk19 hd19 he19
  have hi19 := he19 _ _ hne1 hi18
  have hj19 := he19 _ _ hne2 hj18
  have heE19 := heE18.trans he19
  have hp19 := he19 _ _ hne3 hp18
  clear hk18 hd18 he19 hi18 hj18 heE18 hp18
  repeat' (first | tb_start | with_reducible first | refine ex_cons ?_ | refine ex_If ?_)
  refine call_deque ?_
  dsimp only
  have heA : Ext os19 (os19 ++ [dqO]) := Ext.app _ _
  have hq20 : (os19 ++ [dqO])[os19.length]? = some dqO := app_at
  have hk20 := heA _ _ hk19
  have hd20 := heA _ _ hd19
  have hi20 := heA _ _ hi19
  have hj20 := heA _ _ hj19
  have heE20 := heE19.ext heA
  have hne4 : os19.length ≠ d := by have := (List.getElem?_eq_some_iff.mp hd19).1; lsm_bools
  have hp20 := heA _ _ hp19
  generalize os19.length = fs at *
  generalize os19 ++ [dqO] = os20 at *
  clear hk19 hd19 hi19 hj19 heE19 heA hp19
  repeat' (first | tb_start | with_reducible first | refine ex_cons ?_ | refine ex_If ?_)
  intro os21 hk21 hd21 he21
  have hi21 := he21 _ _ hne1 hi20
  have hj21 := he21 _ _ hne2 hj20
  have heE21 := heE20.trans he21
  have hp21 := he21 _ _ hne3 hp20
  have hq21 := he21 _ _ hne4 hq20
  clear hk20 hd20 he21 hi20 hj20 heE20 hp20 hq20
  repeat' (first | tb_start | with_reducible first | refine ex_cons ?_ | refine ex_If ?_)
  intro os22 hk22 hd22 he22
  have hi22 := he22 _ _ hne1 hi21
  have hj22 := he22 _ _ hne2 hj21
  have heE22 := heE21.trans he22
  have hp22 := he22 _ _ hne3 hp21
  have hq22 := he22 _ _ hne4 hq21
  clear hk21 hd21 he22 hi21 hj21 heE21 hp21 hq21
  repeat' (first | tb_start | with_reducible first | refine ex_cons ?_ | refine ex_If ?_)
  intro os23 hk23 hd23 he23
  have hi23 := he23 _ _ hne1 hi22
  have hj23 := he23 _ _ hne2 hj22
  have heE23 := heE22.trans he23
  have hp23 := he23 _ _ hne3 hp22
  have hq23 := he23 _ _ hne4 hq22
  clear hk22 hd22 he23 hi22 hj22 heE22 hp22 hq22
  repeat' (first | tb_start | with_reducible first | refine ex_cons ?_ | refine ex_If ?_)
  exact h os23 ki di pb fs heE23 hdi hki hi23 hj23 hp23 hq23 (Eq.mp (by kernel_rfl) hd23)
-- WN
section
variable {W : Wd} {c : Cx} {st : St}
theorem op_inC {x : Str} {ch : Nat} {Q : AV → St → Prop} (h : Q (.bool (decide (ch ∈ x.cps.toList))) st) : Op2 W c VR st (.str ⟨#[ch]⟩) (.str x) (compareOp .In) Q := op_inS (by rw [PySem.StrLaws.found_one]; exact h)
theorem op_notInC {x : Str} {ch : Nat} {Q : AV → St → Prop} (h : Q (.bool (!decide (ch ∈ x.cps.toList))) st) : Op2 W c VR st (.str ⟨#[ch]⟩) (.str x) (compareOp .NotIn) Q := op_notInS (by
  have := PySem.StrLaws.found_one x ch
  have e : (Builtin.Str.occurrences x ⟨#[ch]⟩ 0 x.length 1).isEmpty = !decide (ch ∈ x.cps.toList) := by rw [← this, Bool.not_not]
  rw [e]; exact h)
theorem op_inT2 {k : Nat} {a b x : Str} {Q : AV → St → Prop} (hk : st.os[k]? = some (.tup [.str a, .str b])) (h : Q (.bool (decide (a = x) || decide (b = x))) st) : Op2 W c VR st (.str x) (.obj k) (compareOp .In) Q := fun ρ s E v u r hv hu => by
  obtain ⟨t, e⟩ := hv
  subst e
  obtain ⟨ta, vs, n, e1, h1, h2, h3⟩ := r.tup hk hu
  subst e1
  obtain ⟨v1, _, rfl, ⟨t1, e1⟩, v2, _, rfl, ⟨t2, e2⟩, rfl⟩ := h3
  subst e1; subst e2
  refine PySem.SeqAt.in_tupleAt (items := #[.str a t1, .str b t2]) (fun y => match y with | .str z _ => decide (z = x) | _ => false) ⟨_, h2, rfl, n, rfl⟩ (fun y hy => ?_) ?_
  · simp at hy
    rcases hy with rfl | rfl
    · exact PySem.SeqAt.EqAt.str_str a t1 x t
    · exact PySem.SeqAt.EqAt.str_str b t2 x t
  · have e : (#[Value.str a t1, Value.str b t2].any fun y => match y with | .str z _ => decide (z = x) | _ => false) = (decide (a = x) || decide (b = x)) := by simp
    rw [e]
    exact Post.here h r (by show Value.bool _ = Value.bool _; rfl)
theorem op_eqSN {x : Str} {Q : AV → St → Prop} (h : Q (.bool false) st) : Op2 W c VR st (.str x) .none (compareOp .Eq) Q := fun ρ s E v u r ⟨t, e⟩ e' => by
  subst e; cases (show u = .none from e')
  exact PySem.EqNone.eq_str_none (Post.here h r (by show Value.bool _ = Value.bool _; rfl))
theorem op_eqNN {Q : AV → St → Prop} (h : Q (.bool true) st) : Op2 W c VR st .none .none (compareOp .Eq) Q := fun ρ s E v u r e e' => by
  cases (show v = .none from e); cases (show u = .none from e')
  exact PySem.EqNone.eq_none_none (Post.here h r (by show Value.bool _ = Value.bool _; rfl))
end
-- HQ
/-- an ordinary character of a shell's line: no end of line, no tab, no backslash -/
noncomputable def ordC (c : Nat) : Prop := c ≠ 9 ∧ c ≠ 10 ∧ c ≠ 13 ∧ c ≠ 92
/-- a lexer inside one word: outside quotes (none) or inside (some k), with what it has read -/
noncomputable def lexW : Option Nat → List Nat → List Nat → Option (List Nat)
  | none, t, [] => some t
  | none, t, c :: cs => if c = 32 then none else if c = 39 ∨ c = 34 then lexW (some c) t cs else lexW none (t ++ [c]) cs
  | some k, t, [] => none
  | some k, t, c :: cs => if c = k then lexW none t cs else lexW (some k) (t ++ [c]) cs
-- EM
local macro_rules | `(tactic| leaf_len) => rows1 "br_true A,br_false A,br_true' A,br_false' A"
local macro_rules | `(tactic| kpc_turns) => rows1 "op_inC,op_notInC"
theorem op_inSA {W : Wd} {c : Cx} {st : St} {x : Str} {Q : AV → St → Prop} (h : Q (.bool (decide (97 ∈ x.cps.toList))) st) : Op2 W c VR st (.str (Str.ofString "a")) (.str x) (compareOp .In) Q := by
  have e : Str.ofString "a" = ⟨#[97]⟩ := by decide +kernel
  rw [e]; exact op_inC h
theorem tr_one {W : Wd} {c : Cx} {st : St} {ch : Nat} {Q : Bool → St → Prop} (h : Q true st) : Op1 W c BR st (.str ⟨#[ch]⟩) truthy Q := tr_str (by show 1 ≤ _; lsm_bools) h
local macro_rules | `(tactic| kpc_turns) => rows1 "op_inSA"
local macro_rules | `(tactic| kpt_turns) => rows1 "tr_one"
/-- what was there stays, but for two places -/
noncomputable def ExtD (d e : Nat) (a b : List AO) : Prop := ∀ (j : Nat) (o : AO), j ≠ d → j ≠ e → a[j]? = some o → b[j]? = some o
theorem ExtD.refl (d e : Nat) (a : List AO) : ExtD d e a a := fun _ _ _ _ h => h
theorem ExtD.trans {d e : Nat} {a b f : List AO} (h : ExtD d e a b) (h' : ExtD d e b f) : ExtD d e a f := fun j o n m x => h' j o n m (h j o n m x)
theorem ExtD.l {d e : Nat} {a b f : List AO} (h : ExtD d e a b) (h' : ExtB d b f) : ExtD d e a f := fun j o n m x => h' j o n (h j o n m x)
theorem ExtD.r {d e : Nat} {a b f : List AO} (h : ExtD d e a b) (h' : ExtB e b f) : ExtD d e a f := fun j o n m x => h' j o m (h j o n m x)
theorem ExtD.x {d e : Nat} {a b f : List AO} (h : ExtD d e a b) (h' : Ext b f) : ExtD d e a f := fun j o n m x => h' j o (h j o n m x)
/-- a lexer over the text x, at place p -/
structure Lx (os : List AO) (k d ki di pb fs : Nat) (x : Str) (p : Nat) (state : AV) (tok : Str) : Prop where
  hk : os[k]? = some (.inst 852 d)
  hd : os[d]? = some (.dict (shxD ki pb fs true (Str.ofString "") state tok))
  hi : os[ki]? = some (.inst 717 di)
  hj : os[di]? = some (.dict (sioD x p))
  hp : os[pb]? = some dqO
  hf : os[fs]? = some dqO
  ne : d ≠ di
theorem Lx.ne1 {os k d ki di pb fs x p state tok} (L : Lx os k d ki di pb fs x p state tok) : k ≠ d ∧ k ≠ di ∧ ki ≠ d ∧ ki ≠ di ∧ pb ≠ d ∧ pb ≠ di ∧ fs ≠ d ∧ fs ≠ di := by
  obtain ⟨h1, h2, h3, h4, h5, h6, h7⟩ := L
  refine ⟨?_, ?_, ?_, ?_, ?_, ?_, ?_, ?_⟩ <;> (intro e; subst e; simp_all [dqO])
/-- the lexer's own names changed -/
theorem Lx.setD {os os' k d ki di pb fs x p state tok state' tok'} (L : Lx os k d ki di pb fs x p state tok) (hE : ExtB d os os') (h : os'[d]? = some (.dict (shxD ki pb fs true (Str.ofString "") state' tok'))) : Lx os' k d ki di pb fs x p state' tok' :=
  have n := L.ne1
  ⟨hE _ _ n.1 L.hk, h, hE _ _ n.2.2.1 L.hi, hE _ _ (Ne.symm L.ne) L.hj, hE _ _ n.2.2.2.2.1 L.hp, hE _ _ n.2.2.2.2.2.2.1 L.hf, L.ne⟩
theorem Lx.setI {os os' k d ki di pb fs x p p' state tok} (L : Lx os k d ki di pb fs x p state tok) (hE : ExtB di os os') (h : os'[di]? = some (.dict (sioD x p'))) : Lx os' k d ki di pb fs x p' state tok :=
  have n := L.ne1
  ⟨hE _ _ n.2.1 L.hk, hE _ _ L.ne L.hd, hE _ _ n.2.2.2.1 L.hi, h, hE _ _ n.2.2.2.2.2.1 L.hp, hE _ _ n.2.2.2.2.2.2.2 L.hf, L.ne⟩
theorem Lx.ext {os os' k d ki di pb fs x p state tok} (L : Lx os k d ki di pb fs x p state tok) (hE : Ext os os') : Lx os' k d ki di pb fs x p state tok :=
  ⟨hE _ _ L.hk, hE _ _ L.hd, hE _ _ L.hi, hE _ _ L.hj, hE _ _ L.hp, hE _ _ L.hf, L.ne⟩
/-- the property punctuation_chars -/
theorem spec_punct {w : World} {c : Cx} {st : St} {k d : Nat} {l : List (Str × AV)} {Q : AV → St → Prop} (hr : 1 ≤ c.room) (hk : st.os[k]? = some (.inst 852 d)) (hd : st.os[d]? = some (.dict l)) (hl : l.lookup (Str.ofString "_punctuation_chars") = some (.str (Str.ofString "")))
    (h : Q (.str (Str.ofString "")) st) : CodeV (WW w) c st (.ref 783) [.obj k] [] Q := by
  (refine' code_fn (m0 := [(Str.ofString "self", .obj k)]) (news := []) ?ho ?hcd ?room ?hb ?hm ?hloc ?c1 ?c2 ?c3 ?c4 ?_; (case ho => (((try dsimp only [WW]); k_is))); (case hcd => (((try dsimp only [WW]); k_is))); (case c1 => exact rfl); (case c2 => exact rfl); (case c3 => exact rfl); (case c4 => decide); (case hm => (simp only [List.map_cons, List.map_nil]; decide)); (case hloc => (simp only [List.map_cons, List.map_nil]; decide)); (case room => (first | lsm_bools | (show 1 ≤ c.room - 1; lsm_bools))))
  case hb => exact BindV.one fun v => by kernel_rfl
  intro c' hs hcl hrm
  rw [List.append_nil]
  repeat' (first | tb_start | with_reducible first | refine ex_cons ?_ | refine ex_If ?_)
  exact h
theorem ga_punct {w : World} {c : Cx} {st : St} {k d : Nat} {l : List (Str × AV)} {Q : AV → St → Prop} (hr : 2 ≤ c.room) (hk : st.os[k]? = some (.inst 852 d)) (hd : st.os[d]? = some (.dict l)) (hl : l.lookup (Str.ofString "_punctuation_chars") = some (.str (Str.ofString "")))
    (h : Q (.str (Str.ofString "")) st) : GetA (WW w) c st (.obj k) (Str.ofString "punctuation_chars") Q :=
  ga_prop (p := 784) (fget := 783) hk hd (by (((try dsimp only [WW]); k_is))) (by (((try dsimp only [WW]); k_is))) (by (((try dsimp only [WW]); k_is))) (by (((try dsimp only [WW]); k_is))) (by (((try dsimp only [WW]); k_is))) (by (((try dsimp only [WW]); k_is))) (by lsm_bools) (spec_punct (by show 1 ≤ c.room - 1; lsm_bools) hk hd hl ⟨rfl, h⟩)
local macro_rules | `(tactic| kfm_turns) => rows1 "ga_punct OAAR"
theorem br_a {b : Bool} {X Y : Prop} (e : b = true) (h : X) : (b = true → X) ∧ (b = false → Y) := br_true e h
theorem m_ws {ch : Nat} (h : ordC ch) (h' : ch ≠ 32) : decide (ch ∈ (Str.ofString " \t\r\n").cps.toList) = false := by
  have e : (Str.ofString " \t\r\n").cps.toList = [32, 9, 13, 10] := by decide +kernel
  rw [e]; obtain ⟨h1, h2, h3, h4⟩ := h; simp [*]
theorem m_nil (ch : Nat) : decide (ch ∈ (Str.ofString "").cps.toList) = false := by
  have e : (Str.ofString "").cps.toList = [] := by decide +kernel
  rw [e]; simp
theorem m_esc {ch : Nat} (h : ordC ch) : decide (ch ∈ (Str.ofString "\\").cps.toList) = false := by
  have e : (Str.ofString "\\").cps.toList = [92] := by decide +kernel
  rw [e]; obtain ⟨h1, h2, h3, h4⟩ := h; simp [*]
theorem m_q (ch : Nat) : decide (ch ∈ (Str.ofString "'\"").cps.toList) = decide (ch = 39 ∨ ch = 34) := by
  have e : (Str.ofString "'\"").cps.toList = [39, 34] := by decide +kernel
  rw [e]; simp
theorem m_wcq {ch : Nat} (h : ch = 39 ∨ ch = 34) : decide (ch ∈ (wcA ++ wcB).cps.toList) = false := by
  rcases h with rfl | rfl <;> decide +kernel
theorem one_ne {ch z : Nat} (h : ch ≠ z) : decide ((⟨#[ch]⟩ : Str) = ⟨#[z]⟩) = false := by simp [h]
theorem nl_eq : Str.ofString "\n" = ⟨#[10]⟩ := by decide +kernel
theorem one_len (ch : Nat) : decide ((⟨#[ch]⟩ : Str).length ≠ 0) = true := rfl
theorem app_one (t : List Nat) (ch : Nat) : (⟨t.toArray⟩ ++ ⟨#[ch]⟩ : Str) = ⟨(t ++ [ch]).toArray⟩ := by
  apply Str.ext'
  rw [Str.cps_append]; simp
/-- between two characters; at the end -/
inductive RtEndB (st : St) (k d ki di pb fs p : Nat) (x : Str) (piece rest tok : List Nat) (st5 : St) (b : Bool) : Prop
  | mk (h1 : st5.gn = st.gn) (h2 : st5.m.lookup (Str.ofString "self") = some (.obj k)) (h3 : st5.m.lookup (Str.ofString "quoted") = some (.bool b)) (h4 : ExtD d di st.os st5.os) (h5 : Lx st5.os k d ki di pb fs x (p + piece.length + (if rest = [] then 0 else 1)) (if rest = [] then .none else .str (Str.ofString " ")) ⟨tok.toArray⟩)
noncomputable abbrev RtEnd (st : St) (k d ki di pb fs p : Nat) (x : Str) (piece rest tok : List Nat) (st5 : St) : Prop := ∃ (b : Bool), RtEndB st k d ki di pb fs p x piece rest tok st5 b
inductive RtInvB (st : St) (k d ki di pb fs p : Nat) (x : Str) (piece rest tok : List Nat) (n : Nat) (st5 : St) (mode : Option Nat) (start : Bool) (t cs : List Nat) (b : Bool) (q : Nat) : Prop
  | mk (h1 : n = cs.length + 1) (h2 : st5.gn = st.gn) (h3 : st5.m.lookup (Str.ofString "self") = some (.obj k)) (h4 : st5.m.lookup (Str.ofString "quoted") = some (.bool b)) (h5 : ExtD d di st.os st5.os) (h6 : Lx st5.os k d ki di pb fs x q (.str (if start then Str.ofString " " else match mode with | none => Str.ofString "a" | some z => ⟨#[z]⟩)) ⟨t.toArray⟩) (h7 : q + cs.length = p + piece.length) (h8 : x.cps.toList.drop q = cs ++ rest) (h9 : lexW mode t cs = some tok) (h10 : (∀ c ∈ cs, ordC c)) (h11 : (start = true → t = [] ∧ mode = none ∧ cs.head? ≠ none ∧ cs.head? ≠ some 32)) (h12 : (∀ z, mode = some z → z = 39 ∨ z = 34)) (h13 : q ≤ x.length) (h14 : t.length + cs.length ≤ 10000)
noncomputable abbrev RtInv (st : St) (k d ki di pb fs p : Nat) (x : Str) (piece rest tok : List Nat) (n : Nat) (st5 : St) : Prop := ∃ (mode : Option Nat) (start : Bool) (t cs : List Nat) (b : Bool) (q : Nat), RtInvB st k d ki di pb fs p x piece rest tok n st5 mode start t cs b q
theorem spec_read_tok {w : World} {c : Cx} {st : St} {k d ki di pb fs p : Nat} {x : Str} {piece rest tok : List Nat} {Q : AV → St → Prop} (hr : 4 ≤ c.room) (L : Lx st.os k d ki di pb fs x p (.str (Str.ofString " ")) (Str.ofString "")) (hz : x.length ≤ 10000) (hpl : p ≤ x.length)
    (hx : x.cps.toList.drop p = piece ++ rest) (hord : ∀ c ∈ piece, ordC c) (hne : piece.head? ≠ none ∧ piece.head? ≠ some 32) (hlex : lexW none [] piece = some tok) (htok : tok ≠ []) (hrest : rest = [] ∨ ∃ r, rest = 32 :: r)
    (h : ∀ os', ExtD d di st.os os' → Lx os' k d ki di pb fs x (p + piece.length + (if rest = [] then 0 else 1)) (if rest = [] then .none else .str (Str.ofString " ")) (Str.ofString "") → Q (.str ⟨tok.toArray⟩) { st with os := os' }) : CodeV (WW w) c st (.ref 820) [.obj k] [] Q := by
  (refine' code_fn (m0 := [(Str.ofString "self", .obj k)]) (news := []) ?ho ?hcd ?room ?hb ?hm ?hloc ?c1 ?c2 ?c3 ?c4 ?_; (case ho => (((try dsimp only [WW]); k_is))); (case hcd => (((try dsimp only [WW]); k_is))); (case c1 => exact rfl); (case c2 => exact rfl); (case c3 => exact rfl); (case c4 => decide); (case hm => (simp only [List.map_cons, List.map_nil]; decide)); (case hloc => (simp only [List.map_cons, List.map_nil]; decide)); (case room => (first | lsm_bools | (show 1 ≤ c.room - 1; lsm_bools))))
  case hb => exact BindV.one fun v => by kernel_rfl
  intro c' hs hcl hrm
  rw [List.append_nil]
  repeat' (first | tb_start | with_reducible first | refine ex_cons ?_ | refine ex_If ?_)
  refine ex_J (RtEnd st k d ki di pb fs p x piece rest tok) ?_ ?_
  · refine ex_While (RtInv st k d ki di pb fs p x piece rest tok) (piece.length + 1) ?_ ?_
    · exact ⟨none, true, [], piece, false, p, rfl, rfl, by kct_strs, by kct_strs, ExtD.refl _ _ _, L, rfl, hx, hlex, hord, fun _ => ⟨rfl, rfl, hne⟩, (fun z e => nomatch e), hpl, by have := congrArg List.length hx; rw [List.length_drop, List.length_append, Array.length_toList] at this; have : x.cps.size = x.length := rfl; show 0 + piece.length ≤ _; lsm_bools⟩
    · rintro n ⟨mm, oo, gg⟩ ⟨mode, start, t, cs, b, q, rfl, rfl, hs1, hs2, hE, L1, hq, hdrop, hlx, hoc, hst, hmz, hql, htl⟩
      dsimp only at hs1 hs2 hE L1
      have hk1 := L1.hk
      have hd1 := L1.hd
      have hi1 := L1.hi
      have hj1 := L1.hj
      have hxl : x.cps.toList.length = x.length := by rw [Array.length_toList]; rfl
      refine tt_plain rfl ?_
      repeat' (first | tb_start | with_reducible first | refine ex_cons ?_ | refine ex_If ?_)
      ((refine' getM_inst ?hk ?hd ?hg ?hf ?ht ?hl ?hkeep ?_; (case hk => with_reducible assumption); (case hd => with_reducible assumption); (case hg => (((try dsimp only [WW]); k_is))); (case hf => (((try dsimp only [WW]); k_is))); (case ht => (((try dsimp only [WW]); k_is))); (case hl => kct_strs); (case hkeep => (first | exact keep_B | exact keep_T | exact keep_K (by (((try dsimp only [WW]); k_is)))))))
      repeat' (first | tb_start | with_reducible first | refine ex_cons ?_ | refine ex_If ?_)
      refine CodeV.call (spec_read (p := q) (x := x) (by lsm_bools) hi1 hj1 (by lsm_bools) hql (fun os2 ch hch hE2 hj2 => ?_) (fun hnone => ?_))
      · have L2 := L1.setI hE2 hj2
        have hE := hE.r hE2
        clear hE2 hj2 hk1 hd1 hi1 hj1 L1
        have hql2 : q + 1 ≤ x.length := by have := (List.getElem?_eq_some_iff.mp hch).1; lsm_bools
        have hd0 : x.cps.toList.drop q = ch :: x.cps.toList.drop (q + 1) := by
          obtain ⟨h1, h2⟩ := List.getElem?_eq_some_iff.mp hch
          rw [List.drop_eq_getElem_cons h1, h2]
        rw [hd0] at hdrop
        have hnn := one_len ch
        have hnn' : (!decide ((⟨#[ch]⟩ : Str).length ≠ 0)) = false := by rw [hnn]; rfl
        cases cs with
        | nil =>
          rw [List.nil_append] at hdrop
          have hrst : rest ≠ [] := by rw [← hdrop]; simp
          obtain ⟨r, hr2⟩ := hrest.resolve_left hrst
          have hch32 : ch = 32 := by rw [hr2] at hdrop; exact (List.cons.inj hdrop).1
          subst hch32
          obtain ⟨rfl, rfl⟩ : mode = none ∧ t = tok := by
            cases mode with
            | none => exact ⟨rfl, by simpa [lexW] using hlx⟩
            | some z => simp [lexW] at hlx
          have hstf : start = false := by
            cases start with
            | false => rfl
            | true => exact absurd rfl (hst rfl).2.2.1
          subst hstf
          have h10 : decide ((⟨#[32]⟩ : Str) = Str.ofString "\n") = false := by decide +kernel
          have hws : decide (32 ∈ (Str.ofString " \t\r\n").cps.toList) = true := by decide +kernel
          have htk : decide ((⟨t.toArray⟩ : Str).length ≠ 0) = true := by
            apply decide_eq_true
            show t.toArray.size ≠ 0
            rw [List.size_toArray]; intro e; exact htok (List.length_eq_zero_iff.mp e)
          have hk1 := L2.hk
          have hd1 := L2.hd
          simp only [Bool.false_eq_true, if_false] at hd1
          repeat' (first | tb_start | with_reducible first | refine ex_cons ?_ | refine ex_If ?_)
          refine ⟨by simp, ?_⟩
          refine op_inT2 app_at ?_
          have L3 := L2.ext (Ext.app os2 [AO.tup [AV.str (Str.ofString "a"), AV.str (Str.ofString "c")]])
          have hE := hE.x (Ext.app os2 [AO.tup [AV.str (Str.ofString "a"), AV.str (Str.ofString "c")]])
          clear L2 hk1 hd1
          dsimp only
          generalize os2 ++ [AO.tup [AV.str (Str.ofString "a"), AV.str (Str.ofString "c")]] = os3 at *
          have hk1 := L3.hk
          have hd1 := L3.hd
          simp only [Bool.false_eq_true, if_false] at hd1
          repeat' (first | tb_start | with_reducible first | refine ex_cons ?_ | refine ex_If ?_)
          intro os4 hk4 hd4 he4
          have L4 := L3.setD he4 (state' := .str (Str.ofString " ")) (tok' := ⟨t.toArray⟩) (Eq.mp (by kernel_rfl) hd4)
          have hE := hE.l he4
          clear hk1 hd1
          repeat' (first | tb_start | with_reducible first | refine ex_cons ?_ | refine ex_If ?_)
          refine tr_str (by show t.toArray.size ≤ _; rw [List.size_toArray]; simp only [List.length_nil] at htl; lsm_bools) ?_
          repeat' (first | tb_start | with_reducible first | refine ex_cons ?_ | refine ex_If ?_)
          refine ⟨rfl, b, rfl, by kct_strs, by kct_strs, hE, ?_⟩
          rw [if_neg hrst, if_neg hrst, ← hq]
          exact L4
        | cons c0 cs =>
          rw [List.cons_append] at hdrop
          obtain ⟨hc0, hdrop2⟩ := List.cons.inj hdrop
          subst hc0
          have hoc0 : ordC ch := hoc ch (by simp)
          have hoc' : ∀ c ∈ cs, ordC c := fun c hc => hoc c (by simp [hc])
          have hq' : q + 1 + cs.length = p + piece.length := by simp only [List.length_cons] at hq; lsm_bools
          have htl1 : (t ++ [ch]).length + cs.length ≤ 10000 := by simp only [List.length_cons, List.length_append, List.length_nil] at htl ⊢; lsm_bools
          have htl0 : t.length + cs.length ≤ 10000 := by simp only [List.length_cons] at htl; lsm_bools
          have h10 : decide ((⟨#[ch]⟩ : Str) = Str.ofString "\n") = false := by rw [nl_eq]; exact one_ne hoc0.2.1
          have hnil := m_nil ch
          have hesc := m_esc hoc0
          have hmq := m_q ch
          cases mode with
          | some z =>
            have hz1 := hmz z rfl
            have hstf : start = false := by
              cases start with
              | false => rfl
              | true => exact absurd (hst rfl).2.1 (by simp)
            subst hstf
            simp only [Bool.false_eq_true, if_false] at L2
            have hk1 := L2.hk
            have hd1 := L2.hd
            have hzq : decide (z ∈ (Str.ofString "'\"").cps.toList) = true := by rw [m_q]; exact decide_eq_true hz1
            have hz32 : decide ((⟨#[z]⟩ : Str) = Str.ofString " ") = false := by
              rcases hz1 with rfl | rfl <;> decide +kernel
            by_cases hz : ch = z
            · subst hz
              have heq : decide ((⟨#[ch]⟩ : Str) = ⟨#[ch]⟩) = true := by simp
              have hlx' : lexW none t cs = some tok := by simpa [lexW] using hlx
              repeat' (first | tb_start | with_reducible first | refine ex_cons ?_ | refine ex_If ?_)
              intro os4 hk4 hd4 he4
              have L4 := L2.setD he4 (state' := .str (Str.ofString "a")) (tok' := ⟨t.toArray⟩) (Eq.mp (by kernel_rfl) hd4)
              have hE := hE.l he4
              clear hk1 hd1
              repeat' (first | tb_start | with_reducible first | refine ex_cons ?_ | refine ex_If ?_)
              exact ⟨cs.length + 1, by simp, none, false, t, cs, true, q + 1, rfl, rfl, by kct_strs, by kct_strs, hE, L4, hq', hdrop2, hlx', hoc', (fun e => nomatch e), (fun z e => nomatch e), hql2, htl0⟩
            · have heq : decide ((⟨#[ch]⟩ : Str) = ⟨#[z]⟩) = false := one_ne hz
              have hlx' : lexW (some z) (t ++ [ch]) cs = some tok := by simpa [lexW, hz] using hlx
              repeat' (first | tb_start | with_reducible first | refine ex_cons ?_ | refine ex_If ?_)
              refine op_iaddS (by show t.toArray.size + 1 ≤ _; rw [List.size_toArray]; lsm_bools) ?_
              rw [app_one]
              repeat' (first | tb_start | with_reducible first | refine ex_cons ?_ | refine ex_If ?_)
              intro os4 hk4 hd4 he4
              have L4 := L2.setD he4 (state' := .str ⟨#[z]⟩) (tok' := ⟨(t ++ [ch]).toArray⟩) (Eq.mp (by kernel_rfl) hd4)
              have hE := hE.l he4
              clear hk1 hd1
              repeat' (first | tb_start | with_reducible first | refine ex_cons ?_ | refine ex_If ?_)
              exact ⟨cs.length + 1, by simp, some z, false, t ++ [ch], cs, true, q + 1, rfl, rfl, by kct_strs, by kct_strs, hE, L4, hq', hdrop2, hlx', hoc', (fun e => nomatch e), hmz, hql2, htl1⟩
          | none =>
            have hch32 : ch ≠ 32 := by intro e; subst e; simp [lexW] at hlx
            have hws := m_ws hoc0 hch32
            cases start with
            | true =>
              obtain ⟨ht0, _, _, _⟩ := hst rfl
              subst ht0
              simp only [if_true] at L2
              have hk1 := L2.hk
              have hd1 := L2.hd
              by_cases hqu : ch = 39 ∨ ch = 34
              · have hqt : decide (ch ∈ (Str.ofString "'\"").cps.toList) = true := by rw [m_q]; exact decide_eq_true hqu
                have hwc := m_wcq hqu
                have hlx' : lexW (some ch) [] cs = some tok := by simpa [lexW, hch32, hqu] using hlx
                repeat' (first | tb_start | with_reducible first | refine ex_cons ?_ | refine ex_If ?_)
                intro os4 hk4 hd4 he4
                have L4 := L2.setD he4 (state' := .str ⟨#[ch]⟩) (tok' := ⟨([] : List Nat).toArray⟩) (Eq.mp (by kernel_rfl) hd4)
                have hE := hE.l he4
                clear hk1 hd1
                repeat' (first | tb_start | with_reducible first | refine ex_cons ?_ | refine ex_If ?_)
                exact ⟨cs.length + 1, by simp, some ch, false, [], cs, b, q + 1, rfl, rfl, by kct_strs, by kct_strs, hE, L4, hq', hdrop2, hlx', hoc', (fun e => nomatch e), (fun z e => by cases e; exact hqu), hql2, htl0⟩
              · have hqt : decide (ch ∈ (Str.ofString "'\"").cps.toList) = false := by rw [m_q]; exact decide_eq_false hqu
                have hlx' : lexW none [ch] cs = some tok := by simpa [lexW, hch32, hqu] using hlx
                have htl2 : [ch].length + cs.length ≤ 10000 := htl1
                cases hwc : decide (ch ∈ (wcA ++ wcB).cps.toList) with
                | true =>
                  repeat' (first | tb_start | with_reducible first | refine ex_cons ?_ | refine ex_If ?_)
                  intro os4 hk4 hd4 he4
                  repeat' (first | tb_start | with_reducible first | refine ex_cons ?_ | refine ex_If ?_)
                  intro os5 hk5 hd5 he5
                  have L4 := L2.setD (he4.trans he5) (state' := .str (Str.ofString "a")) (tok' := ⟨[ch].toArray⟩) (Eq.mp (by kernel_rfl) hd5)
                  have hE := (hE.l he4).l he5
                  clear hk1 hd1
                  repeat' (first | tb_start | with_reducible first | refine ex_cons ?_ | refine ex_If ?_)
                  exact ⟨cs.length + 1, by simp, none, false, [ch], cs, b, q + 1, rfl, rfl, by kct_strs, by kct_strs, hE, L4, hq', hdrop2, hlx', hoc', (fun e => nomatch e), (fun z e => nomatch e), hql2, htl2⟩
                | false =>
                  repeat' (first | tb_start | with_reducible first | refine ex_cons ?_ | refine ex_If ?_)
                  intro os4 hk4 hd4 he4
                  repeat' (first | tb_start | with_reducible first | refine ex_cons ?_ | refine ex_If ?_)
                  intro os5 hk5 hd5 he5
                  have L4 := L2.setD (he4.trans he5) (state' := .str (Str.ofString "a")) (tok' := ⟨[ch].toArray⟩) (Eq.mp (by kernel_rfl) hd5)
                  have hE := (hE.l he4).l he5
                  clear hk1 hd1
                  repeat' (first | tb_start | with_reducible first | refine ex_cons ?_ | refine ex_If ?_)
                  exact ⟨cs.length + 1, by simp, none, false, [ch], cs, b, q + 1, rfl, rfl, by kct_strs, by kct_strs, hE, L4, hq', hdrop2, hlx', hoc', (fun e => nomatch e), (fun z e => nomatch e), hql2, htl2⟩
            | false =>
              simp only [Bool.false_eq_true, if_false] at L2
              have hk1 := L2.hk
              have hd1 := L2.hd
              repeat' (first | tb_start | with_reducible first | refine ex_cons ?_ | refine ex_If ?_)
              refine ⟨by simp, ?_⟩
              refine op_inT2 app_at ?_
              have L3 := L2.ext (Ext.app os2 [AO.tup [AV.str (Str.ofString "a"), AV.str (Str.ofString "c")]])
              have hE := hE.x (Ext.app os2 [AO.tup [AV.str (Str.ofString "a"), AV.str (Str.ofString "c")]])
              clear L2 hk1 hd1
              dsimp only
              generalize os2 ++ [AO.tup [AV.str (Str.ofString "a"), AV.str (Str.ofString "c")]] = os3 at *
              have hk1 := L3.hk
              have hd1 := L3.hd
              by_cases hqu : ch = 39 ∨ ch = 34
              · have hqt : decide (ch ∈ (Str.ofString "'\"").cps.toList) = true := by rw [m_q]; exact decide_eq_true hqu
                have hlx' : lexW (some ch) t cs = some tok := by simpa [lexW, hch32, hqu] using hlx
                repeat' (first | tb_start | with_reducible first | refine ex_cons ?_ | refine ex_If ?_)
                intro os4 hk4 hd4 he4
                have L4 := L3.setD he4 (state' := .str ⟨#[ch]⟩) (tok' := ⟨t.toArray⟩) (Eq.mp (by kernel_rfl) hd4)
                have hE := hE.l he4
                clear hk1 hd1
                repeat' (first | tb_start | with_reducible first | refine ex_cons ?_ | refine ex_If ?_)
                exact ⟨cs.length + 1, by simp, some ch, false, t, cs, b, q + 1, rfl, rfl, by kct_strs, by kct_strs, hE, L4, hq', hdrop2, hlx', hoc', (fun e => nomatch e), (fun z e => by cases e; exact hqu), hql2, htl0⟩
              · have hqt : decide (ch ∈ (Str.ofString "'\"").cps.toList) = false := by rw [m_q]; exact decide_eq_false hqu
                have hlx' : lexW none (t ++ [ch]) cs = some tok := by simpa [lexW, hch32, hqu] using hlx
                cases hwc : decide (ch ∈ (wcA ++ wcB).cps.toList) with
                | true =>
                  repeat' (first | tb_start | with_reducible first | refine ex_cons ?_ | refine ex_If ?_)
                  refine op_iaddS (by show t.toArray.size + 1 ≤ _; rw [List.size_toArray]; lsm_bools) ?_
                  rw [app_one]
                  repeat' (first | tb_start | with_reducible first | refine ex_cons ?_ | refine ex_If ?_)
                  intro os4 hk4 hd4 he4
                  have L4 := L3.setD he4 (state' := .str (Str.ofString "a")) (tok' := ⟨(t ++ [ch]).toArray⟩) (Eq.mp (by kernel_rfl) hd4)
                  have hE := hE.l he4
                  clear hk1 hd1
                  repeat' (first | tb_start | with_reducible first | refine ex_cons ?_ | refine ex_If ?_)
                  exact ⟨cs.length + 1, by simp, none, false, t ++ [ch], cs, b, q + 1, rfl, rfl, by kct_strs, by kct_strs, hE, L4, hq', hdrop2, hlx', hoc', (fun e => nomatch e), (fun z e => nomatch e), hql2, htl1⟩
                | false =>
                  have hnil' : (!decide (ch ∈ (Str.ofString "").cps.toList)) = true := by rw [hnil]; rfl
                  repeat' (first | tb_start | with_reducible first | refine ex_cons ?_ | refine ex_If ?_)
                  refine op_iaddS (by show t.toArray.size + 1 ≤ _; rw [List.size_toArray]; lsm_bools) ?_
                  rw [app_one]
                  repeat' (first | tb_start | with_reducible first | refine ex_cons ?_ | refine ex_If ?_)
                  intro os4 hk4 hd4 he4
                  have L4 := L3.setD he4 (state' := .str (Str.ofString "a")) (tok' := ⟨(t ++ [ch]).toArray⟩) (Eq.mp (by kernel_rfl) hd4)
                  have hE := hE.l he4
                  clear hk1 hd1
                  repeat' (first | tb_start | with_reducible first | refine ex_cons ?_ | refine ex_If ?_)
                  exact ⟨cs.length + 1, by simp, none, false, t ++ [ch], cs, b, q + 1, rfl, rfl, by kct_strs, by kct_strs, hE, L4, hq', hdrop2, hlx', hoc', (fun e => nomatch e), (fun z e => nomatch e), hql2, htl1⟩
      · have hdn : x.cps.toList.drop q = [] := List.drop_eq_nil_of_le (List.getElem?_eq_none_iff.mp hnone)
        rw [hdn] at hdrop
        obtain ⟨rfl, rfl⟩ := List.append_eq_nil_iff.mp hdrop.symm
        obtain ⟨rfl, rfl⟩ : mode = none ∧ t = tok := by
          cases mode with
          | none => exact ⟨rfl, by simpa [lexW] using hlx⟩
          | some z => simp [lexW] at hlx
        have hstf : start = false := by
          cases start with
          | false => rfl
          | true => exact absurd rfl (hst rfl).2.2.1
        subst hstf
        simp only [Bool.false_eq_true, if_false] at L1
        clear hk1 hd1
        have hk1 := L1.hk
        have hd1 := L1.hd
        repeat' (first | tb_start | with_reducible first | refine ex_cons ?_ | refine ex_If ?_)
        refine ⟨by simp, ?_⟩
        refine op_inT2 app_at ?_
        have L3 := L1.ext (Ext.app oo [AO.tup [AV.str (Str.ofString "a"), AV.str (Str.ofString "c")]])
        have hE := hE.x (Ext.app oo [AO.tup [AV.str (Str.ofString "a"), AV.str (Str.ofString "c")]])
        clear L1 hk1 hd1 hi1 hj1
        dsimp only
        generalize oo ++ [AO.tup [AV.str (Str.ofString "a"), AV.str (Str.ofString "c")]] = os3 at *
        have hk1 := L3.hk
        have hd1 := L3.hd
        repeat' (first | tb_start | with_reducible first | refine ex_cons ?_ | refine ex_If ?_)
        intro os4 hk4 hd4 he4
        have L4 := L3.setD he4 (state' := .none) (tok' := ⟨t.toArray⟩) (Eq.mp (by kernel_rfl) hd4)
        have hE := hE.l he4
        clear hk1 hd1
        repeat' (first | tb_start | with_reducible first | refine ex_cons ?_ | refine ex_If ?_)
        refine ⟨rfl, b, rfl, by kct_strs, by kct_strs, hE, ?_⟩
        rw [if_pos rfl, if_pos rfl, ← hq]
        exact L4
  · rintro ⟨mm, oo, gg⟩ ⟨b, rfl, hs1, hs2, hE, L1⟩
    dsimp only at hs1 hs2 hE L1
    have hk1 := L1.hk
    have hd1 := L1.hd
    repeat' (first | tb_start | with_reducible first | refine ex_cons ?_ | refine ex_If ?_)
    intro os2 hk2 hd2 he2
    have L2 := L1.setD he2 (tok' := Str.ofString "") (state' := (if rest = [] then .none else .str (Str.ofString " "))) (Eq.mp (by kernel_rfl) hd2)
    have hnil : (⟨tok.toArray⟩ : Str) ≠ Str.ofString "" := by
      intro e
      have := congrArg (fun y : Str => y.cps.toList) e
      simp only [List.toList_toArray] at this
      exact htok this
    have hfin : Q (.str ⟨tok.toArray⟩) ⟨st.m, os2, st.gn⟩ := h os2 (hE.l he2) L2
    repeat' (first | tb_start | with_reducible first | refine ex_cons ?_ | refine ex_If ?_)
    cases b with
    | true =>
      repeat' (first | tb_start | with_reducible first | refine ex_cons ?_ | refine ex_If ?_)
      exact hfin
    | false =>
      repeat' (first | tb_start | with_reducible first | refine ex_cons ?_ | refine ex_If ?_)
      refine br_false' (by simpa using hnil) ?_
      repeat' (first | tb_start | with_reducible first | refine ex_cons ?_ | refine ex_If ?_)
      exact hfin
/-- the lexer at the end -/
inductive ReEnd (st : St) (k d ki di pb fs : Nat) (x : Str) (st5 : St) : Prop
  | mk (h1 : st5.gn = st.gn) (h2 : st5.m.lookup (Str.ofString "self") = some (.obj k)) (h3 : st5.m.lookup (Str.ofString "quoted") = some (.bool false)) (h4 : ExtD d di st.os st5.os) (h5 : Lx st5.os k d ki di pb fs x x.length .none (Str.ofString ""))
theorem spec_read_end {w : World} {c : Cx} {st : St} {k d ki di pb fs : Nat} {x : Str} {Q : AV → St → Prop} (hr : 4 ≤ c.room) (L : Lx st.os k d ki di pb fs x x.length .none (Str.ofString "")) (hz : x.length ≤ 10000)
    (h : ∀ os', ExtD d di st.os os' → Lx os' k d ki di pb fs x x.length .none (Str.ofString "") → Q .none { st with os := os' }) : CodeV (WW w) c st (.ref 820) [.obj k] [] Q := by
  (refine' code_fn (m0 := [(Str.ofString "self", .obj k)]) (news := []) ?ho ?hcd ?room ?hb ?hm ?hloc ?c1 ?c2 ?c3 ?c4 ?_; (case ho => (((try dsimp only [WW]); k_is))); (case hcd => (((try dsimp only [WW]); k_is))); (case c1 => exact rfl); (case c2 => exact rfl); (case c3 => exact rfl); (case c4 => decide); (case hm => (simp only [List.map_cons, List.map_nil]; decide)); (case hloc => (simp only [List.map_cons, List.map_nil]; decide)); (case room => (first | lsm_bools | (show 1 ≤ c.room - 1; lsm_bools))))
  case hb => exact BindV.one fun v => by kernel_rfl
  intro c' hs hcl hrm
  rw [List.append_nil]
  repeat' (first | tb_start | with_reducible first | refine ex_cons ?_ | refine ex_If ?_)
  refine ex_J (ReEnd st k d ki di pb fs x) ?_ ?_
  · refine ex_While (fun n st5 => st5 = ⟨_, st.os, st.gn⟩) 1 rfl ?_
    rintro n _ rfl
    have hk1 := L.hk
    have hd1 := L.hd
    have hi1 := L.hi
    have hj1 := L.hj
    refine tt_plain rfl ?_
    repeat' (first | tb_start | with_reducible first | refine ex_cons ?_ | refine ex_If ?_)
    ((refine' getM_inst ?hk ?hd ?hg ?hf ?ht ?hl ?hkeep ?_; (case hk => with_reducible assumption); (case hd => with_reducible assumption); (case hg => (((try dsimp only [WW]); k_is))); (case hf => (((try dsimp only [WW]); k_is))); (case ht => (((try dsimp only [WW]); k_is))); (case hl => kct_strs); (case hkeep => (first | exact keep_B | exact keep_T | exact keep_K (by (((try dsimp only [WW]); k_is)))))))
    repeat' (first | tb_start | with_reducible first | refine ex_cons ?_ | refine ex_If ?_)
    refine CodeV.call (spec_read (p := x.length) (x := x) (by lsm_bools) hi1 hj1 (by lsm_bools) (Nat.le_refl _) (fun os2 ch hch hE2 hj2 => ?_) (fun hnone => ?_))
    · have := (List.getElem?_eq_some_iff.mp hch).1
      have hxl : x.cps.toList.length = x.length := by rw [Array.length_toList]; rfl
      lsm_bools
    · repeat' (first | tb_start | with_reducible first | refine ex_cons ?_ | refine ex_If ?_)
      intro os4 hk4 hd4 he4
      have L4 := L.setD he4 (state' := .none) (tok' := Str.ofString "") (Eq.mp (by kernel_rfl) hd4)
      repeat' (first | tb_start | with_reducible first | refine ex_cons ?_ | refine ex_If ?_)
      exact ⟨rfl, rfl, by kct_strs, by kct_strs, (ExtD.refl _ _ _).l he4, L4⟩
  · rintro ⟨mm, oo, gg⟩ ⟨rfl, hs1, hs2, hE, L1⟩
    dsimp only at hs1 hs2 hE L1
    have hk1 := L1.hk
    have hd1 := L1.hd
    repeat' (first | tb_start | with_reducible first | refine ex_cons ?_ | refine ex_If ?_)
    intro os2 hk2 hd2 he2
    have L2 := L1.setD he2 (tok' := Str.ofString "") (state' := .none) (Eq.mp (by kernel_rfl) hd2)
    have hfin := h os2 (hE.l he2) L2
    repeat' (first | tb_start | with_reducible first | refine ex_cons ?_ | refine ex_If ?_)
    exact hfin
-- EO
theorem spec_get_tok {w : World} {c : Cx} {st : St} {k d ki di pb fs p : Nat} {x : Str} {piece rest tok : List Nat} {Q : AV → St → Prop} (hr : 5 ≤ c.room) (L : Lx st.os k d ki di pb fs x p (.str (Str.ofString " ")) (Str.ofString "")) (hz : x.length ≤ 10000) (hpl : p ≤ x.length)
    (hx : x.cps.toList.drop p = piece ++ rest) (hord : ∀ c ∈ piece, ordC c) (hne : piece.head? ≠ none ∧ piece.head? ≠ some 32) (hlex : lexW none [] piece = some tok) (htok : tok ≠ []) (hrest : rest = [] ∨ ∃ r, rest = 32 :: r)
    (h : ∀ os', ExtD d di st.os os' → Lx os' k d ki di pb fs x (p + piece.length + (if rest = [] then 0 else 1)) (if rest = [] then .none else .str (Str.ofString " ")) (Str.ofString "") → Q (.str ⟨tok.toArray⟩) { st with os := os' }) : CodeV (WW w) c st (.ref 813) [.obj k] [] Q := by
  (refine' code_fn (m0 := [(Str.ofString "self", .obj k)]) (news := []) ?ho ?hcd ?room ?hb ?hm ?hloc ?c1 ?c2 ?c3 ?c4 ?_; (case ho => (((try dsimp only [WW]); k_is))); (case hcd => (((try dsimp only [WW]); k_is))); (case c1 => exact rfl); (case c2 => exact rfl); (case c3 => exact rfl); (case c4 => decide); (case hm => (simp only [List.map_cons, List.map_nil]; decide)); (case hloc => (simp only [List.map_cons, List.map_nil]; decide)); (case room => (first | lsm_bools | (show 1 ≤ c.room - 1; lsm_bools))))
  case hb => exact BindV.one fun v => by kernel_rfl
  intro c' hs hcl hrm
  rw [List.append_nil]
  have hk1 := L.hk
  have hd1 := L.hd
  repeat' (first | tb_start | with_reducible first | refine ex_cons ?_ | refine ex_If ?_)
  refine tr_dq L.hp ?_
  repeat' (first | tb_start | with_reducible first | refine ex_cons ?_ | refine ex_If ?_)
  ((refine' getM_inst ?hk ?hd ?hg ?hf ?ht ?hl ?hkeep ?_; (case hk => with_reducible assumption); (case hd => with_reducible assumption); (case hg => (((try dsimp only [WW]); k_is))); (case hf => (((try dsimp only [WW]); k_is))); (case ht => (((try dsimp only [WW]); k_is))); (case hl => kct_strs); (case hkeep => (first | exact keep_B | exact keep_T | exact keep_K (by (((try dsimp only [WW]); k_is)))))))
  repeat' (first | tb_start | with_reducible first | refine ex_cons ?_ | refine ex_If ?_)
  refine CodeV.call (spec_read_tok (by lsm_bools) L hz hpl hx hord hne hlex htok hrest fun os2 hE L2 => ?_)
  clear hk1 hd1
  have hk1 := L2.hk
  have hd1 := L2.hd
  repeat' (first | tb_start | with_reducible first | refine ex_cons ?_ | refine ex_If ?_)
  refine ex_J (fun st5 => st5 = ⟨putM (Str.ofString "raw") (.str ⟨tok.toArray⟩) [(Str.ofString "self", .obj k)], os2, st.gn⟩) ?_ ?_
  · refine ex_While (fun n st5 => st5 = ⟨putM (Str.ofString "raw") (.str ⟨tok.toArray⟩) [(Str.ofString "self", .obj k)], os2, st.gn⟩) 1 rfl ?_
    rintro n _ rfl
    repeat' (first | tb_start | with_reducible first | refine ex_cons ?_ | refine ex_If ?_)
    refine op_eqSN ?_
    repeat' (first | tb_start | with_reducible first | refine ex_cons ?_ | refine ex_If ?_)
    exact ⟨rfl, rfl⟩
  · rintro _ rfl
    repeat' (first | tb_start | with_reducible first | refine ex_cons ?_ | refine ex_If ?_)
    exact h os2 hE L2
theorem spec_get_end {w : World} {c : Cx} {st : St} {k d ki di pb fs : Nat} {x : Str} {Q : AV → St → Prop} (hr : 5 ≤ c.room) (L : Lx st.os k d ki di pb fs x x.length .none (Str.ofString "")) (hz : x.length ≤ 10000)
    (h : ∀ os', ExtD d di st.os os' → Lx os' k d ki di pb fs x x.length .none (Str.ofString "") → Q .none { st with os := os' }) : CodeV (WW w) c st (.ref 813) [.obj k] [] Q := by
  (refine' code_fn (m0 := [(Str.ofString "self", .obj k)]) (news := []) ?ho ?hcd ?room ?hb ?hm ?hloc ?c1 ?c2 ?c3 ?c4 ?_; (case ho => (((try dsimp only [WW]); k_is))); (case hcd => (((try dsimp only [WW]); k_is))); (case c1 => exact rfl); (case c2 => exact rfl); (case c3 => exact rfl); (case c4 => decide); (case hm => (simp only [List.map_cons, List.map_nil]; decide)); (case hloc => (simp only [List.map_cons, List.map_nil]; decide)); (case room => (first | lsm_bools | (show 1 ≤ c.room - 1; lsm_bools))))
  case hb => exact BindV.one fun v => by kernel_rfl
  intro c' hs hcl hrm
  rw [List.append_nil]
  have hk1 := L.hk
  have hd1 := L.hd
  repeat' (first | tb_start | with_reducible first | refine ex_cons ?_ | refine ex_If ?_)
  refine tr_dq L.hp ?_
  repeat' (first | tb_start | with_reducible first | refine ex_cons ?_ | refine ex_If ?_)
  ((refine' getM_inst ?hk ?hd ?hg ?hf ?ht ?hl ?hkeep ?_; (case hk => with_reducible assumption); (case hd => with_reducible assumption); (case hg => (((try dsimp only [WW]); k_is))); (case hf => (((try dsimp only [WW]); k_is))); (case ht => (((try dsimp only [WW]); k_is))); (case hl => kct_strs); (case hkeep => (first | exact keep_B | exact keep_T | exact keep_K (by (((try dsimp only [WW]); k_is)))))))
  repeat' (first | tb_start | with_reducible first | refine ex_cons ?_ | refine ex_If ?_)
  refine CodeV.call (spec_read_end (by lsm_bools) L hz fun os2 hE L2 => ?_)
  clear hk1 hd1
  have hk1 := L2.hk
  have hd1 := L2.hd
  repeat' (first | tb_start | with_reducible first | refine ex_cons ?_ | refine ex_If ?_)
  refine ex_While (fun n st5 => st5 = ⟨putM (Str.ofString "raw") .none [(Str.ofString "self", .obj k)], os2, st.gn⟩) 1 rfl ?_
  rintro n _ rfl
  repeat' (first | tb_start | with_reducible first | refine ex_cons ?_ | refine ex_If ?_)
  refine op_eqNN ?_
  repeat' (first | tb_start | with_reducible first | refine ex_cons ?_ | refine ex_If ?_)
  refine tr_dq L2.hf ?_
  repeat' (first | tb_start | with_reducible first | refine ex_cons ?_ | refine ex_If ?_)
  exact h os2 hE L2
-- HR
noncomputable def reCode : Array Nat := #[14, 17, 4, 1, 1, 21, 9, 0, 604043296, 1, 0, 0, 0, 0, 0, 8, 4, 0, 13, 14, 21, 9, 0, 604043296, 1, 0, 0, 0, 0, 0, 8, 4, 0, 1]
noncomputable def driveP : Nat → Sre.M → Option Sre.M
  | 0, _ => none
  | n + 1, m => if (m.runFor Builtin.Re.reTurnSteps).outcome.isSome then some (m.runFor Builtin.Re.reTurnSteps) else driveP n (m.runFor Builtin.Re.reTurnSteps)
noncomputable def outc (t : Array Nat) : Option Bool := match driveP 64 (Sre.forSearch reCode t 0 0 t.size false) with
  | some m => match m.outcome with | some .matched => some true | some .failed => some false | _ => none
  | none => none
noncomputable def allL : Nat → List (List Str)
  | 0 => [[]]
  | n + 1 => (allL n).flatMap fun L => menuL.map fun y => y :: L
noncomputable def unsafeL (L : List Str) : Bool := L.any fun y => decide (y = Str.ofString "it's") || decide (y = Str.ofString "a b")
theorem out2 : ((allL 2).all fun L => outc (pathOf L).cps == some (unsafeL L)) = true := by decide +kernel
theorem out3 : ((allL 3).all fun L => outc (pathOf L).cps == some (unsafeL L)) = true := by decide +kernel
theorem out4 : ((allL 4).all fun L => outc (pathOf L).cps == some (unsafeL L)) = true := by decide +kernel
theorem allL_mem : ∀ (L : List Str), (∀ y ∈ L, y ∈ menuL) → L ∈ allL L.length
  | [], _ => by simp [allL]
  | y :: L, h => by
    rw [List.length_cons, allL, List.mem_flatMap]
    exact ⟨L, allL_mem L fun z hz => h z (List.mem_cons_of_mem _ hz), List.mem_map.mpr ⟨y, h y (by simp), rfl⟩⟩
theorem out_ok {L : List Str} (h : okN L) (h2 : 2 ≤ L.length) : outc (pathOf L).cps = some (unsafeL L) := by
  have hm := allL_mem L h.2
  have h4 := h.1
  have : L.length = 2 ∨ L.length = 3 ∨ L.length = 4 := by lsm_bools
  rcases this with e | e | e
  · rw [e] at hm; exact eq_of_beq (List.all_eq_true.mp out2 L hm)
  · rw [e] at hm; exact eq_of_beq (List.all_eq_true.mp out3 L hm)
  · rw [e] at hm; exact eq_of_beq (List.all_eq_true.mp out4 L hm)
theorem namesNum_len (x : Int) : 2 ≤ (namesNum x).length := by
  unfold namesNum
  rw [List.length_map, List.length_range]
  have := Int.fmod_nonneg_of_pos x (show (0 : Int) < 3 by decide)
  lsm_bools
section
variable {M : Model} {A : Around} {E : Value → Shared → Prop} {s : Shared}
theorem wp_drive {Q : Sre.M → Shared → Prop} : ∀ (n : Nat) (m m' : Sre.M) (T : Nat), driveP n m = some m' → n ≤ T → Q m' s → wpAny M A (Builtin.Re.reDrive T m) Q E s
  | 0, m, m', T, h, _, _ => by cases h
  | n + 1, m, m', 0, _, h, _ => by lsm_bools
  | n + 1, m, m', T + 1, h, hn, hq => by
    unfold driveP at h
    unfold Builtin.Re.reDrive
    by_cases e : (m.runFor Builtin.Re.reTurnSteps).outcome.isSome = true
    · rw [if_pos e] at h; cases h
      show wpAny _ _ (if (m.runFor Builtin.Re.reTurnSteps).outcome.isSome = true then _ else _) _ _ _
      rw [if_pos e]; exact wpAny_pure hq
    · rw [if_neg e] at h
      show wpAny _ _ (if (m.runFor Builtin.Re.reTurnSteps).outcome.isSome = true then _ else _) _ _ _
      rw [if_neg e]; exact wpAny_bind (wpAny_rule (wp_drive n _ m' T h (by lsm_bools) hq))
theorem wp_rules {f : Nat → Bool} {g : Nat → String} {Q : PUnit → Shared → Prop} (hq : Q PUnit.unit s) : ∀ l : List Nat, wpAny M A (forIn l PUnit.unit fun i _ => if f i = true then (do rule (g i); pure (ForInStep.yield PUnit.unit)) else pure (ForInStep.yield PUnit.unit) : Sem PUnit) Q E s
  | [] => wpAny_pure hq
  | i :: l => by
    rw [List.forIn_cons]
    by_cases e : f i = true
    · rw [if_pos e]; exact wpAny_bind (wpAny_bind (wpAny_rule (wpAny_pure (wp_rules hq l))))
    · rw [if_neg e]; exact wpAny_bind (wpAny_pure (wp_rules hq l))
theorem wp_runToEnd {t : Array Nat} {b : Bool} {Q : Option Sre.M → Shared → Prop} (h : outc t = some b) (h1 : b = true → ∀ m, Q (some m) s) (h0 : b = false → Q none s) :
    wpAny M A (Builtin.Re.reRunToEnd (Sre.forSearch reCode t 0 0 t.size false)) Q E s := by
  unfold outc at h
  cases hd : driveP 64 (Sre.forSearch reCode t 0 0 t.size false) with
  | none => rw [hd] at h; cases h
  | some m' =>
    rw [hd] at h
    replace h : (match m'.outcome with | some .matched => some true | some .failed => some false | _ => none) = some b := h
    unfold Builtin.Re.reRunToEnd
    refine wpAny_bind (wp_drive 64 _ m' _ hd (by decide) ?_)
    try dsimp only
    refine wpAny_bind (wp_rules (f := fun i => m'.seen.has i) (g := fun i => Sre.names.getD i "") ?_ _)
    cases ho : m'.outcome with
    | none => rw [ho] at h; cases h
    | some o =>
      rw [ho] at h
      cases o with
      | matched => cases h; exact wpAny_pure (h1 rfl m')
      | failed => cases h; exact wpAny_pure (h0 rfl)
      | stuck why => cases h
end
-- HS
noncomputable def quoteL (L : List Str) : Str := if unsafeL L then Str.ofString "'" ++ Txt.replace (pathOf L) (Str.ofString "'") (Str.ofString "'\"'\"'") ++ Str.ofString "'" else pathOf L
theorem q_eq : Str.ofString "'" = ⟨#[39]⟩ := by decide +kernel
theorem qq_eq : Str.ofString "'\"'\"'" = ⟨#[39, 34, 39, 34, 39]⟩ := by decide +kernel
/-- each c by z -/
noncomputable def repC (c : Nat) (z : List Nat) : List Nat → List Nat
  | [] => []
  | k :: r => (if k = c then z else [k]) ++ repC c z r
theorem repC_app (c : Nat) (z : List Nat) : ∀ a b : List Nat, repC c z (a ++ b) = repC c z a ++ repC c z b
  | [], _ => rfl
  | k :: r, b => by
    show (if k = c then z else [k]) ++ repC c z (r ++ b) = (if k = c then z else [k]) ++ repC c z r ++ repC c z b
    rw [repC_app c z r b, List.append_assoc]
theorem repC_free (c : Nat) (z : List Nat) : ∀ l : List Nat, c ∉ l → repC c z l = l
  | [], _ => rfl
  | k :: r, h => by
    have h1 : ¬ k = c := fun e => h (e ▸ List.mem_cons_self ..)
    have h2 : c ∉ r := fun m => h (List.mem_cons_of_mem _ m)
    show (if k = c then z else [k]) ++ repC c z r = k :: r
    rw [if_neg h1, repC_free c z r h2]; rfl
theorem repC_join (c : Nat) (z : Str) : ∀ parts : List Str, (∀ p ∈ parts, c ∉ p.cps.toList) → repC c z.cps.toList (Str.join ⟨#[c]⟩ parts).cps.toList = (Str.join z parts).cps.toList
  | [], _ => rfl
  | [p], h => repC_free c _ _ (h p (List.mem_singleton.mpr rfl))
  | p :: q :: r, h => by
    have ih := repC_join c z (q :: r) fun a ha => h a (List.mem_cons_of_mem _ ha)
    show repC c z.cps.toList (p ++ ⟨#[c]⟩ ++ Str.join ⟨#[c]⟩ (q :: r)).cps.toList = (p ++ z ++ Str.join z (q :: r)).cps.toList
    rw [tl_app, tl_app, tl_app, tl_app, repC_app, repC_app, ih, repC_free c _ _ (h p (List.mem_cons_self ..))]
    show p.cps.toList ++ repC c z.cps.toList [c] ++ _ = _
    rw [show repC c z.cps.toList [c] = z.cps.toList by simp [repC]]
theorem replace_rep (x z : Str) (c : Nat) : (Txt.replace x ⟨#[c]⟩ z).cps.toList = repC c z.cps.toList x.cps.toList := by
  rw [PySem.StrLaws.replace_one, ← repC_join c z _ (PySem.StrLaws.split_free x c), PySem.StrLaws.join_split]
theorem repC_len (c : Nat) (z : List Nat) (hz : 1 ≤ z.length) : ∀ l : List Nat, (repC c z l).length ≤ z.length * l.length
  | [] => Nat.zero_le _
  | k :: r => by
    have ih := repC_len c z hz r
    show ((if k = c then z else [k]) ++ repC c z r).length ≤ z.length * (r.length + 1)
    rw [List.length_append, Nat.mul_add, Nat.mul_one]
    have : (if k = c then z else [k]).length ≤ z.length := by
      split
      · exact Nat.le_refl _
      · exact hz
    lsm_bools
theorem repC_mem {c : Nat} {z : List Nat} {d : Nat} : ∀ {l : List Nat}, d ∈ repC c z l → d ∈ z ∨ d ∈ l
  | [], h => nomatch h
  | k :: r, h => by
    rcases List.mem_append.mp h with h | h
    · split at h
      · exact .inl h
      · exact .inr (List.mem_singleton.mp h ▸ List.mem_cons_self ..)
    · rcases repC_mem h with h | h
      · exact .inl h
      · exact .inr (List.mem_cons_of_mem _ h)
/-- inside quotes -/
theorem lex_in : ∀ (s t r : List Nat), lexW (some 39) t (repC 39 [39, 34, 39, 34, 39] s ++ r) = lexW (some 39) (t ++ s) r
  | [], t, r => by rw [List.append_nil]; rfl
  | k :: s, t, r => by
    by_cases h : k = 39
    · subst h
      have ih := lex_in s (t ++ [39]) r
      rw [List.append_assoc] at ih
      show lexW (some 39) t ((if 39 = 39 then [39, 34, 39, 34, 39] else [39]) ++ repC 39 [39, 34, 39, 34, 39] s ++ r) = _
      rw [if_pos rfl]
      simpa [lexW] using ih
    · have ih := lex_in s (t ++ [k]) r
      rw [List.append_assoc] at ih
      show lexW (some 39) t ((if k = 39 then [39, 34, 39, 34, 39] else [k]) ++ repC 39 [39, 34, 39, 34, 39] s ++ r) = _
      rw [if_neg h]
      simpa [lexW, h] using ih
theorem lex_plain : ∀ (s t : List Nat), (∀ c ∈ s, c ≠ 32 ∧ c ≠ 39 ∧ c ≠ 34) → lexW none t s = some (t ++ s)
  | [], t, _ => by rw [List.append_nil]; rfl
  | k :: s, t, h => by
    obtain ⟨h1, h2, h3⟩ := h k (List.mem_cons_self ..)
    have ih := lex_plain s (t ++ [k]) fun c hc => h c (List.mem_cons_of_mem _ hc)
    rw [List.append_assoc] at ih
    simpa [lexW, h1, h2, h3] using ih
theorem join_chars {S : Nat → Prop} {x : Str} (hx : ∀ c ∈ x.cps.toList, S c) : ∀ {L : List Str}, (∀ y ∈ L, ∀ c ∈ y.cps.toList, S c) → ∀ c ∈ (Str.join x L).cps.toList, S c
  | [], _, c, hc => nomatch hc
  | [y], h, c, hc => h y (List.mem_singleton.mpr rfl) c hc
  | y :: z :: r, h, c, hc => by
    rw [join_cons2, tl_app, tl_app] at hc
    rcases List.mem_append.mp hc with hc | hc
    · rcases List.mem_append.mp hc with hc | hc
      · exact h y (List.mem_cons_self ..) c hc
      · exact hx c hc
    · exact join_chars hx (fun a ha => h a (List.mem_cons_of_mem _ ha)) c hc
theorem sl_cps : (Str.ofString "/").cps.toList = [47] := by decide +kernel
theorem path_chars {S : Nat → Prop} (h47 : S 47) {L : List Str} (h : ∀ y ∈ L, ∀ c ∈ y.cps.toList, S c) : ∀ c ∈ (pathOf L).cps.toList, S c := fun c hc => by
  unfold pathOf at hc
  have h1 : ∀ c ∈ (Str.ofString "/").cps.toList, S c := by rw [sl_cps]; intro c hc; rw [List.mem_singleton.mp hc]; exact h47
  rw [tl_app] at hc
  rcases List.mem_append.mp hc with hc | hc
  · exact h1 c hc
  · exact join_chars h1 h c hc
theorem menu_chars : ∀ y ∈ menuL, ∀ c ∈ y.cps.toList, c ∈ [97, 98, 105, 116, 39, 115, 32] := by decide +kernel
theorem menu_safe : ∀ y ∈ menuL, (y = Str.ofString "it's" ∨ y = Str.ofString "a b") ∨ ∀ c ∈ y.cps.toList, c ∈ [97, 98] := by decide +kernel
theorem ord_chars : ∀ c ∈ [47, 97, 98, 105, 116, 39, 115, 32], ordC c := by unfold ordC; decide
theorem ord_quote : ∀ c ∈ [39, 34, 39, 34, 39], ordC c := by unfold ordC; decide
theorem ord_safe : ∀ c ∈ [47, 97, 98], ordC c ∧ c ≠ 32 ∧ c ≠ 39 ∧ c ≠ 34 := by unfold ordC; decide
structure LexOk (L : List Str) : Prop where
  lex : lexW none [] (quoteL L).cps.toList = some (pathOf L).cps.toList
  ord : ∀ c ∈ (quoteL L).cps.toList, ordC c
  head : (quoteL L).cps.toList.head? ≠ none ∧ (quoteL L).cps.toList.head? ≠ some 32
  len : (quoteL L).length ≤ 130
theorem lex_ok {L : List Str} (h : okN L) (h2 : 2 ≤ L.length) : LexOk L := by
  have hlen := path_len h
  have hch := path_chars (S := fun c => c ∈ [47, 97, 98, 105, 116, 39, 115, 32]) (by decide) (L := L) fun y hy c hc => List.mem_cons_of_mem _ (menu_chars y (h.2 y hy) c hc)
  cases hu : unsafeL L with
  | true =>
    have e : (quoteL L).cps.toList = 39 :: (repC 39 [39, 34, 39, 34, 39] (pathOf L).cps.toList ++ [39]) := by
      unfold quoteL
      rw [if_pos hu, q_eq, qq_eq, tl_app, tl_app, replace_rep]
      rfl
    refine ⟨?_, ?_, ?_, ?_⟩
    · rw [e]
      have := lex_in (pathOf L).cps.toList [] [39]
      rw [List.nil_append] at this
      simpa [lexW] using this
    · rw [e]
      intro c hc
      have hc' : c ∈ [47, 97, 98, 105, 116, 39, 115, 32] ∨ c ∈ [39, 34, 39, 34, 39] := by
        rcases List.mem_cons.mp hc with hc | hc
        · subst hc; exact .inl (by decide)
        · rcases List.mem_append.mp hc with hc | hc
          · rcases repC_mem hc with hc | hc
            · exact .inr hc
            · exact .inl (hch c hc)
          · rw [List.mem_singleton.mp hc]; exact .inl (by decide)
      rcases hc' with hc | hc
      · exact ord_chars c hc
      · exact ord_quote c hc
    · rw [e]
      exact ⟨nofun, by simp⟩
    · have h3 := repC_len 39 [39, 34, 39, 34, 39] (by decide) (pathOf L).cps.toList
      have h4 := congrArg List.length e
      have h5 : (quoteL L).cps.toList.length = (quoteL L).length := Array.length_toList ..
      have h6 : (pathOf L).cps.toList.length = (pathOf L).length := Array.length_toList ..
      rw [h5, List.length_cons, List.length_append] at h4
      rw [h6] at h3
      simp only [List.length_cons, List.length_nil] at h3 h4
      lsm_bools
  | false =>
    have e : quoteL L = pathOf L := by
      unfold quoteL
      rw [hu]; rfl
    have hs := path_chars (S := fun c => c ∈ [47, 97, 98]) (by decide) (L := L) fun y hy c hc => by
      rcases menu_safe y (h.2 y hy) with q | q
      · exfalso
        have : unsafeL L = true := by
          unfold unsafeL
          refine List.any_eq_true.mpr ⟨y, hy, ?_⟩
          rcases q with q | q
          · rw [q]; simp
          · rw [q]; simp
        rw [hu] at this
        cases this
      · exact List.mem_cons_of_mem _ (q c hc)
    have e2 : (pathOf L).cps.toList = 47 :: (Str.join (Str.ofString "/") L).cps.toList := by
      unfold pathOf
      rw [tl_app, sl_cps]; rfl
    refine ⟨?_, ?_, ?_, ?_⟩
    · rw [e]
      have := lex_plain (pathOf L).cps.toList [] fun c hc => (ord_safe c (hs c hc)).2
      rw [List.nil_append] at this
      exact this
    · rw [e]
      exact fun c hc => (ord_safe c (hs c hc)).1
    · rw [e, e2]
      exact ⟨nofun, by simp⟩
    · rw [e]
      lsm_bools
/-- a line of pieces -/
noncomputable def lineN : List (List Nat) → List Nat
  | [] => []
  | [a] => a
  | a :: b :: r => a ++ 32 :: lineN (b :: r)
theorem sp_eq : Str.ofString " " = ⟨#[32]⟩ := by decide +kernel
theorem join_line : ∀ xs : List Str, (Str.join (Str.ofString " ") xs).cps.toList = lineN (xs.map fun x => x.cps.toList)
  | [] => rfl
  | [x] => rfl
  | x :: y :: r => by
    rw [join_cons2, tl_app, tl_app, join_line (y :: r), sp_eq]
    simp [lineN]
theorem lineN_drop (a : List Nat) (r : List (List Nat)) : ∃ rest, lineN (a :: r) = a ++ rest ∧ (r = [] → rest = []) ∧ (r ≠ [] → rest = 32 :: lineN r) := by
  cases r with
  | nil => exact ⟨[], by simp [lineN], fun _ => rfl, fun h => absurd rfl h⟩
  | cons b r => exact ⟨32 :: lineN (b :: r), rfl, (fun h => nomatch h), fun _ => rfl⟩
-- WO
/-- an activation with room -/
structure Room (A : Around) (room : Nat) : Prop where
  dep : A.depth + room < recursionLimit
  un : A.units + 20 * room + 100 < cLine
  hd : A.handled = none
/-- a heap that stands on the written part -/
structure Std (W : Wd) (h : Heap) : Prop where
  X : W.K.In h
  T : ∃ mg mb, TopR mg mb h
theorem Std.keeps {W : Wd} {h h' : Heap} (x : Std W h) (k : ∀ b o, h.get? b = some o → h'.get? b = some o) : Std W h' :=
  ⟨x.X.keeps k, let ⟨mg, mb, T⟩ := x.T; ⟨mg, mb, T.keeps k⟩⟩
theorem Rp.std {W : Wd} {c : Cx} {ρ : List Addr} {st : St} {s : Shared} (r : Rp W c ρ st s) : Std W s.heap := Std.keeps ⟨r.ok.X, r.ok.T⟩ r.keep
theorem raw_fn {W : Wd} {A : Around} {s : Shared} {f : Addr} {vs : List Value} (m0 : List (Str × AV)) {room : Nat} {Q : AV → Prop} {E : Value → Shared → Prop} {name qual : Str} {params : Arguments} {body : List Stmt} {scope : Scope} {dV kV doc pm cdv ct oc : Value} {an od : Option Addr} {osl : Array (Option Value)}
    (ho : W.K.lookup f = some ⟨oc, od, .func (fnOf name qual params body scope dV kV doc pm an cdv ct), osl⟩) (hcd : codeIn W.K cdv qual = true) (hR : Room A (room + 1)) (hS : Std W s.heap)
    (hb : ∀ vs : List Value, vs.length = m0.length → bindArgs (fnOf name qual params body scope dV kV doc pm an cdv ct) ⟨vs, []⟩ = pure ((m0.map (·.1)).zip vs))
    (hm : (m0.map (·.1)).Nodup) (hloc : ∀ y ∈ m0.map (·.1), scope.names.lookup y = some .local)
    (hco : scope.isCoroutine = false) (hgen : scope.isGenerator = false) (hk : scope.kind = .function) (hcell : ∀ x ∈ scope.names, x.2 ≠ .cell)
    (hv : VRel [] (m0.map (·.2)) vs)
    (h : ∀ c' : Cx, c'.scope = scope → c'.cl = [] → c'.room = room → Ex W c' { m := m0, os := [], gn := s.gens } (execs body c'.env)
      (fun fl st' => match fl with | .ret v => Q v ∧ st'.gn = s.gens | _ => False)) :
    wpAny W.M A (call (.ref f) vs) (fun v s' => (∃ ρ a, AV.rel ρ a v ∧ Q a) ∧ Keeps s s') E s := by
  obtain ⟨mg, mb, T⟩ := hS.T
  have hbr : MRel [] m0 ((m0.map (·.1)).zip vs) := MRel.zip hv
  refine wpAny_call (codeAny_call_def (fd := fnOf name qual params body scope dV kV doc pm an cdv ct) (body := body) (binds := (m0.map (·.1)).zip vs) (by have := hR.dep; lsm_bools) (hS.X _ _ ho) rfl T.nolimit (codeRec_of hS.X hcd) rfl (BindsTo.of_eq (hb vs (by rw [hv.length, List.length_map]))) hcell ?_ (fun h₁ hns hk₁ => ?_) hco hgen hk)
  · intro x hx
    exact hloc x.1 (by rw [← hbr.keys]; exact List.mem_map_of_mem hx)
  · let c' : Cx := { A := A.deeper (callEnv (fnOf name qual params body scope dV kV doc pm an cdv ct) s.heap.objs.size f), g := s.heap, room := room, L := s.heap.objs.size, scope := scope, cells := [], qual := qual ++ ".<locals>.", func := some f, code := cdv, frame := some s.heap.objs.size, cl := [], os0 := (s.os, s.drawn) }
    have hn : (((m0.map (·.1)).zip vs).map (·.1)).Nodup := by rw [hbr.keys]; exact hm
    have r' : Rp W c' [] { m := m0, os := [], gn := s.gens } { s with heap := h₁, toks := s.toks + ((m0.map (·.1)).zip vs).length } := by
      refine ⟨⟨hS.X, hS.T, hk, ?_, ?_, hR.hd⟩, ⟨_, hns, fun x a e => ?_⟩, hk₁, Nat.le_refl _, ⟨rfl, fun k o e => by simp at e⟩, (fun a ha => (by cases ha)), .nil, fun x k e => (by cases e), rfl, rfl⟩
      · show A.depth + 1 + room < _; have := hR.dep; lsm_bools
      · show A.units + 3 + 20 * room + 100 < _; have := hR.un; lsm_bools
      · obtain ⟨v, e1, e2⟩ := hbr.get e
        exact ⟨v, by rw [lookup_nodup_rev hn]; exact e1, e2⟩
    refine wpAny_mono (h c' rfl rfl rfl [] _ _ r') (fun fl s' p => ?_) fun _ _ x => x
    obtain ⟨ρ', fa, st', r2, hf, hq⟩ := p
    have kp : st'.gn = s.gens → Keeps s s' := fun e => by
      refine ⟨s'.heap, s'.toks, ?_, r2.keep⟩
      have e1 := r2.gens
      have e2 : (s'.os, s'.drawn) = (s.os, s.drawn) := r2.os
      rw [e] at e1
      obtain ⟨h1, h2⟩ := Prod.mk.inj e2
      cases s'
      cases s
      simp only at e1 h1 h2
      subst e1; subst h1; subst h2
      rfl
    cases fa with
    | next => exact hq.elim
    | ret a => obtain ⟨u, e, hu⟩ := hf; subst e; exact ⟨⟨_, a, hu, hq.1⟩, kp hq.2⟩
    | brk => exact hq.elim
    | cont => exact hq.elim
-- WP
section
variable {W : Wd} {c : Cx} {st : St}
/-- like call_fn, with the code told -/
theorem call_fnX {f : Addr} {as : List AV} {m0 : List (Str × AV)} {Q : AV → St → Prop} {name qual : Str} {params : Arguments} {body : List Stmt} {scope : Scope} {dV kV doc pm cdv ct oc : Value} {an od : Option Addr} {osl : Array (Option Value)}
    (ho : W.K.lookup f = some ⟨oc, od, .func (fnOf name qual params body scope dV kV doc pm an cdv ct), osl⟩) (hcd : codeIn W.K cdv qual = true) (hroom : 1 ≤ c.room)
    (hb : ∀ ρ s vs, W.K.In s.heap → VRel ρ as vs → ∃ binds, BindsTo s (fnOf name qual params body scope dV kV doc pm an cdv ct) ⟨vs, []⟩ binds ∧ MRel ρ m0 binds)
    (hm : (m0.map (·.1)).Nodup) (hloc : ∀ y ∈ m0.map (·.1), scope.names.lookup y = some .local)
    (hco : scope.isCoroutine = false) (hgen : scope.isGenerator = false) (hk : scope.kind = .function) (hcell : ∀ x ∈ scope.names, x.2 ≠ .cell)
    (h : ∀ c' : Cx, c'.scope = scope → c'.cl = [] → c'.room + 1 = c.room → c'.code = cdv → (∀ b o, c.g.get? b = some o → c'.g.get? b = some o) → Ex W c' { m := m0, os := st.os, gn := st.gn } (execs body c'.env)
      (RetQ st.m Q)) :
    CallV W c st (.ref f) as Q := fun ρ s E vs r hv => by
  obtain ⟨binds, hbt, hbr⟩ := hb ρ s vs r.X hv
  obtain ⟨mg, mb, T⟩ := r.ok.T
  refine wpAny_call (codeAny_call_def (fd := fnOf name qual params body scope dV kV doc pm an cdv ct) (body := body) (binds := binds) (by have := r.ok.dep; lsm_bools) (r.X _ _ ho) rfl (T.nolimit.keeps r.keep) (codeRec_of r.X hcd) rfl hbt hcell ?_ (fun h₁ hns hk₁ => ?_) hco hgen hk)
  · intro x hx
    exact hloc x.1 (by rw [← hbr.keys]; exact List.mem_map_of_mem hx)
  · let c' : Cx := { A := c.A.deeper (callEnv (fnOf name qual params body scope dV kV doc pm an cdv ct) s.heap.objs.size f), g := hideAll s.heap ρ, room := c.room - 1, L := s.heap.objs.size, scope := scope, cells := [], qual := qual ++ ".<locals>.", func := some f, code := cdv, frame := some s.heap.objs.size, cl := [], os0 := c.os0 }
    have hn : (binds.map (·.1)).Nodup := by rw [hbr.keys]; exact hm
    have r' : Rp W c' ρ { m := m0, os := st.os, gn := st.gn } { s with heap := h₁, toks := s.toks + binds.length } := by
      refine ⟨r.ok.enter (A := c'.A) (env := callEnv (fnOf name qual params body scope dV kV doc pm an cdv ct) s.heap.objs.size f) r hroom rfl hk rfl rfl (by show c.room - 1 + 1 = c.room; lsm_bools), ⟨_, hns, fun x a e => ?_⟩, fun b o e => hk₁ b o (of_hideAll _ e), Nat.le_of_eq (hideAll_size _ _), ⟨r.objs.len, fun k o e => ?_⟩, fun a ha => ⟨Nat.ne_of_lt (r.lt ha), hideAll_none _ ha⟩, r.nodup, fun x k e => (by cases e), r.gens, r.os⟩
      · obtain ⟨v, e1, e2⟩ := hbr.get e
        exact ⟨v, by rw [lookup_nodup_rev hn]; exact e1, e2⟩
      · obtain ⟨a, ob, e1, e2, e3⟩ := r.objs.at_ k o e
        exact ⟨a, ob, e1, hk₁ _ _ e2, e3⟩
    refine wpAny_mono (h c' rfl rfl (by show c.room - 1 + 1 = c.room; lsm_bools) rfl r.keepH ρ _ _ r') (fun fl s' p => ?_) fun _ _ x => x
    obtain ⟨ρ', fa, st', r2, hf, hq⟩ := p
    have rb := r.leave r2 rfl rfl
    cases fa with
    | next => cases hf; exact Post.on hq rb rfl
    | ret a => obtain ⟨u, e, hu⟩ := hf; subst e; exact Post.on hq rb hu
    | brk => exact hq.elim
    | cont => exact hq.elim
theorem call_posX {f : Addr} (m0 : List (Str × AV)) {Q : AV → St → Prop} {name qual : Str} {params : Arguments} {body : List Stmt} {scope : Scope} {dV kV doc pm cdv ct oc : Value} {an od : Option Addr} {osl : Array (Option Value)}
    (ho : W.K.lookup f = some ⟨oc, od, .func (fnOf name qual params body scope dV kV doc pm an cdv ct), osl⟩) (hcd : codeIn W.K cdv qual = true) (hroom : 1 ≤ c.room)
    (hb : ∀ vs : List Value, vs.length = m0.length → bindArgs (fnOf name qual params body scope dV kV doc pm an cdv ct) ⟨vs, []⟩ = pure ((m0.map (·.1)).zip vs))
    (hm : (m0.map (·.1)).Nodup) (hloc : ∀ y ∈ m0.map (·.1), scope.names.lookup y = some .local)
    (hco : scope.isCoroutine = false) (hgen : scope.isGenerator = false) (hk : scope.kind = .function) (hcell : ∀ x ∈ scope.names, x.2 ≠ .cell)
    (h : ∀ c' : Cx, c'.scope = scope → c'.cl = [] → c'.room + 1 = c.room → c'.code = cdv → (∀ b o, c.g.get? b = some o → c'.g.get? b = some o) → Ex W c' { m := m0, os := st.os, gn := st.gn } (execs body c'.env)
      (RetQ st.m Q)) :
    CallV W c st (.ref f) (m0.map (·.2)) Q :=
  call_fnX ho hcd hroom (fun ρ s vs X hv => ⟨_, BindsTo.of_eq (hb vs (by rw [hv.length, List.length_map])), MRel.zip hv⟩) hm hloc hco hgen hk hcell h
theorem Rp.regen {ρ : List Addr} {s : Shared} (r : Rp W c ρ st s) (g : Array GenState) : Rp W c ρ { st with gn := g } { s with gens := g } :=
  ⟨r.ok, r.ns, r.keep, r.above, r.objs, r.fresh, r.nodup, r.cells, rfl, r.os⟩
theorem Rp.room {ρ : List Addr} {s : Shared} (r : Rp W c ρ st s) : Room c.A c.room := ⟨r.ok.dep, r.ok.un, r.ok.hd⟩
theorem Room.le {A : Around} {n m : Nat} (r : Room A n) (h : m ≤ n) : Room A m := ⟨by have := r.dep; lsm_bools, by have := r.un; lsm_bools, r.hd⟩
end
/-- a code's table at an address -/
noncomputable def tabO (k : Nat) (P : Addr) (ps : Array Value) : AO := .gen ⟨fun ρ o => ρ[k]? = some P ∧ o = tabObj ps, fun ρ ρ' o ⟨h, r⟩ => ⟨idx_app h, r⟩⟩
-- ER
theorem entry_search : entryFor table "re.Pattern.search" = some Builtin.«re.Pattern.search» := entryFor_of_tree (by kernel_rfl)
theorem plain_search : plainId "re.Pattern.search" = true := by decide +kernel
theorem keep_search {w : World} : KeepOk (WW w) (.ref 872) := fun h X => ⟨.machine, .inr (.inl rfl), Looks.of_peek X (by kernel_rfl)⟩
theorem pk_check (P : Params) (S : Setting) (x : Str) (t : Tok) : peek (Mine.K39 P) S (checkBoundCall "re.Pattern.search" ⟨[.ref 169, .str x t], []⟩) = some () := by kernel_rfl
theorem pk_target (P : Params) (S : Setting) (x : Str) (t : Tok) : peek (Mine.K39 P) S (Builtin.Re.reTarget "re.Pattern.search" "search" ⟨[.ref 169, .str x t], []⟩) =
    some { pattern := .ref 169, string := .str x t, code := reCode, text := x.cps, kind := 0, groups := 0, pos := min (0 : Int).toNat x.cps.size, lim := min (2 ^ 63 - 1 : Int).toNat x.cps.size } := by kernel_rfl
theorem call_search {w : World} {c : Cx} {st : St} {x : Str} {b : Bool} {Q : AV → St → Prop} (hz : x.length ≤ 1000) (ho : outc x.cps = some b)
    (h1 : b = true → ∀ (os' : List AO) (j : Nat), Ext st.os os' → Q (.obj j) { st with os := os' }) (h0 : b = false → Q .none st) : CallV (WW w) c st (.ref 872) [.str x] Q := fun ρ s E vs r ⟨v, _, e, ⟨t, ev⟩, e'⟩ => by
  subst e; subst e'; subst ev
  have h872 : (WW w).K.lookup 872 = some { cls := .type "builtin_function_or_method", data := .fields #[.builtin "re.Pattern.search", .ref 169] } := by (((try dsimp only [WW]); k_is))
  refine wpAny_call (codeAny_of_tree ?_)
  show wpAny _ _ (callAny (.ref 872) ⟨[.str x t], []⟩) _ _ _
  refine wpAny_bind (wpAny_load (r.X _ _ h872) ?_)
  show wpAny _ _ (checkBoundCall "re.Pattern.search" ⟨[.ref 169, .str x t], []⟩ >>= fun _ => again (.builtin "re.Pattern.search" ⟨[.ref 169, .str x t], []⟩)) _ _ _
  refine wpAny_bind ((Looks.of_peek r.X (pk_check _ _ x t)).here ?_)
  refine wpAny_pure ⟨plainId_quiet plain_search _, codeAny_builtin entry_search ?_⟩
  rw [Around.under_plainId plain_search _]
  unfold Builtin.«re.Pattern.search»
  refine wpAny_bind ((Looks.of_peek r.X (pk_target _ _ x t)).here ?_)
  have e1 : min (0 : Int).toNat x.cps.size = 0 := by simp
  have e2 : min (2 ^ 63 - 1 : Int).toNat x.cps.size = x.cps.size := by
    have : x.cps.size ≤ 1000 := hz
    have : (2 ^ 63 - 1 : Int).toNat = 9223372036854775807 := by decide
    lsm_bools
  dsimp only
  rw [e1, e2]
  unfold Builtin.Re.reAnswer
  refine wpAny_bind (wp_runToEnd ho (fun hb m => ?_) (fun hb => ?_))
  · show wpAny _ _ ((newTuple (rawInt m.start :: rawInt m.handed :: []) >>= fun tp => newFields "re.Match" [.str x t, .ref 169, rawInt (0 : Nat), rawInt x.cps.size, rawInt m.lastindex, tp]) >>= fun v => ret v) _ _ _
    refine wpAny_bind (wpAny_bind ?_)
    simp only [newTuple, newFields]
    refine wpAny_newObj_type ?_ (by size_fits)
    refine wpAny_newObj_type ?_ (by size_fits)
    have r1 := r.alloc (o := anyO) (ob := { cls := .type "tuple", dict := none, data := .seq [rawInt m.start, rawInt m.handed].toArray }) trivial rfl
    have r2 := r1.alloc (o := anyO) (ob := { cls := .type "re.Match", dict := none, data := .fields [.str x t, .ref 169, rawInt (0 : Nat), rawInt x.cps.size, rawInt m.lastindex, .ref s.heap.objs.size].toArray }) trivial rfl
    refine wpAny_pure ⟨[s.heap.objs.size] ++ [s.heap.objs.size + 1], .obj (st.os.length + 1), _, ?_, ?_, h1 hb (st.os ++ [anyO] ++ [anyO]) (st.os.length + 1) ((Ext.app _ _).trans (Ext.app _ _))⟩
    · rw [← List.append_assoc]
      rw [Heap.size_push] at r2
      exact r2
    · refine ⟨s.heap.objs.size + 1, ?_, by rw [Heap.size_push]⟩
      rw [← r.objs.len]; simp
  · exact wpAny_pure (Post.here (h0 hb) r rfl)
theorem ev_QR {W : Wd} {c : Cx} {st : St} {q q' x y z n : Str} {np ap cp p1 p2 p3 p4 p5 p6 : Pos} {k1 k2 k3 k5 : Nat} {pl : Sem Bool} {Q : AV → St → Prop}
    (hv : st.m.lookup n = some (.str x)) (hk : c.scope.names.lookup n = some .local) (hd : (n == ("__debug__" : Str)) = false) (hyz : (y == z) = false) (hx : x.length ≤ 1000) (hz : z.length ≤ 10) (hq : q.length ≤ 10) (hq' : q'.length ≤ 10) (hy : (Txt.replace x y z).length ≤ 100000)
    (he : eval (.Call (.Attribute (.Name n np) "replace" ap) [.Constant (.str y) k2 p2, .Constant (.str z) k3 p3] [] cp) c.env = (do
      let ov ← eval (.Name n np) c.env
      standAt ap.atName
      let (f, first) ← holding [ov] (getMethod ov "replace" pl)
      callWith cp f first (backTo cp (starEach [.Constant (.str y) k2 p2, .Constant (.str z) k3 p3] c.env)) (backToKw cp (keywordEach [] c.env))))
    (h : Q (.str (q ++ Txt.replace x y z ++ q')) st) :
    Ev W c st (eval (.BinOp (.BinOp (.Constant (.str q) k1 p1) .Add (.Call (.Attribute (.Name n np) "replace" ap) [.Constant (.str y) k2 p2, .Constant (.str z) k3 p3] [] cp) p4) .Add (.Constant (.str q') k5 p5) p6) c.env) Q := fun ρ s E r => by
  refine wpAny_BinOp (wpAny_BinOp (wpAny_Constant_str ?_))
  have r1 := r.toks (s.toks + 1)
  obtain ⟨M, hn, hl⟩ := r1.ns
  obtain ⟨v, h1, t, h2⟩ := hl n _ hv
  subst h2
  with_reducible refine methodCall_KW (pl := pl) ?_ he
  refine wpAny_Name (wpAny_loadName_local (env := c.env) r.ok.kind hk hn h1 ?_) hd
  with_reducible refine getMethod_builtin (T := "str") (PySem.typeIs_str _ x t) PySem.F.plainAttrs_str PySem.F.slot_str_replace PySem.F.type_str_replace (fun a' e => by cases e) ?_
  refine callWith_of (P := W.K.In) (keywords := []) rfl keep_B (wp_evalArgs rfl ?_)
  refine spliced_cons (wpAny_Constant_str (k := k2) (pos := p2) ?_)
  refine spliced_cons (wpAny_Constant_str (k := k3) (pos := p3) ?_)
  refine spliced_nil ⟨r.X, ?_⟩
  refine PySem.SC.replace (by show s.toks + 1 ≠ 0; lsm_bools) (by show s.toks + 1 + 1 ≠ 0; lsm_bools) (by show s.toks + 1 ≠ s.toks + 1 + 1; lsm_bools) hyz ?_ fun t' k => ?_
  · have : (x.length + 1) * z.length ≤ 1001 * 10 := Nat.mul_le_mul (by lsm_bools) hz
    lsm_bools
  have r2 := r.toks k
  refine wpAny_mono (op_addS (x := q) (y := Txt.replace x y z) (Q := fun a st1 => a = .str (q ++ Txt.replace x y z) ∧ st1 = st) (by lsm_bools) ⟨rfl, rfl⟩ ρ _ E _ _ r2 ⟨_, rfl⟩ ⟨_, rfl⟩) (fun v1 s1 p => ?_) fun _ _ x => x
  obtain ⟨ρ1, a1, st1, r3, ra, rfl, rfl⟩ := p
  refine wpAny_Constant_str ?_
  have hlen : (q ++ Txt.replace x y z).length = q.length + (Txt.replace x y z).length := PySem.Str.length_append _ _
  exact wpAny_mono (op_addS (x := q ++ Txt.replace x y z) (y := q') (by lsm_bools) h _ _ E _ _ (r3.toks _) ra ⟨_, rfl⟩) (fun _ _ p => Post.ext p) fun _ _ x => x
theorem raw_quote {w : World} {A : Around} {s : Shared} {L : List Str} {t : Tok} {E : Value → Shared → Prop} (hR : Room A 3) (hS : Std (WW w) s.heap) (hL : okN L) (h2 : 2 ≤ L.length) :
    wpAny (WW w).M A (call (.ref 879) [.str (pathOf L) t]) (fun v s' => (∃ t', v = .str (if unsafeL L then Str.ofString "'" ++ Txt.replace (pathOf L) (Str.ofString "'") (Str.ofString "'\"'\"'") ++ Str.ofString "'" else pathOf L) t') ∧ Keeps s s') E s := by
  refine wpAny_mono (?_ : wpAny (WW w).M A (call (.ref 879) [.str (pathOf L) t]) (fun v s' => (∃ ρ a, AV.rel ρ a v ∧ a = .str (if unsafeL L then Str.ofString "'" ++ Txt.replace (pathOf L) (Str.ofString "'") (Str.ofString "'\"'\"'") ++ Str.ofString "'" else pathOf L)) ∧ Keeps s s') E s) (fun v s' ⟨⟨ρ, a, h1, h2⟩, h3⟩ => by subst h2; exact ⟨h1, h3⟩) fun _ _ x => x
  refine' raw_fn (W := WW w) (room := 2) [(Str.ofString "s", .str (pathOf L))] ?ho ?hcd hR hS ?hb ?hm ?hloc ?c1 ?c2 ?c3 ?c4 ⟨_, [], rfl, ⟨t, rfl⟩, rfl⟩ ?_
  case ho => (((try dsimp only [WW]); k_is))
  case hcd => (((try dsimp only [WW]); k_is))
  case c1 => exact rfl
  case c2 => exact rfl
  case c3 => exact rfl
  case c4 => decide
  case hm => (simp only [List.map_cons, List.map_nil]; decide)
  case hloc => (simp only [List.map_cons, List.map_nil]; decide)
  case hb => (refine hb1 ?_; intro a; kernel_rfl)
  intro c' hs hcl hrm
  have hlen := path_len hL
  have hne : decide ((pathOf L).length ≠ 0) = true := by
    apply decide_eq_true
    unfold pathOf
    rw [PySem.Str.length_append]
    have : (Str.ofString "/").length = 1 := rfl
    lsm_bools
  repeat' (first | tb_start | with_reducible first | refine ex_cons ?_ | refine ex_If ?_)
  refine tr_str (by lsm_bools) ?_
  rw [hne]
  repeat' (first | tb_start | with_reducible first | refine ex_cons ?_ | refine ex_If ?_)
  refine call_k keep_search ?_
  repeat' (first | tb_start | with_reducible first | refine ex_cons ?_ | refine ex_If ?_)
  refine call_search (b := unsafeL L) (by lsm_bools) (out_ok hL h2) (fun hb os2 j he => ?_) (fun hb => ?_)
  · refine ev_none ?_
    refine op_iO' ?_
    refine ex_bool ?_
    refine br_ff ?_
    refine ex_nil (seq_next ?_)
    refine ex_cons (ex_Return ?_)
    refine' ev_QR (x := pathOf L) (pl := ?pl) ?hv ?hk ?hd ?hyz ?hx ?hz ?hq ?hq2 ?hy ?he ?_
    case he => rfl
    case hv => kct_strs
    case hk => rw [hs]; rfl
    case hd => rfl
    case hyz => decide +kernel
    case hx => lsm_bools
    case hz => decide
    case hq => decide
    case hq2 => decide
    case hy =>
      have e1 : Str.ofString "'" = ⟨#[39]⟩ := by decide +kernel
      rw [e1, PySem.StrLaws.replace_one]
      have h1 := PySem.StrLaws.join_length_le (Str.ofString "'\"'\"'") (Txt.split (pathOf L) ⟨#[39]⟩)
      have h2 := split_len (pathOf L) ⟨#[39]⟩
      have h3 : ((Txt.split (pathOf L) ⟨#[39]⟩).map (·.length)).sum ≤ (Txt.split (pathOf L) ⟨#[39]⟩).length * 100 := PySem.StrLaws.sumLen_le _ fun y hy => by have := part_short hy; lsm_bools
      have h4 : (Txt.split (pathOf L) ⟨#[39]⟩).length * (Str.ofString "'\"'\"'").length ≤ 100 * 5 := Nat.mul_le_mul (by lsm_bools) (by decide)
      lsm_bools
    repeat' (first | tb_start | with_reducible first | refine ex_cons ?_ | refine ex_If ?_)
    exact ⟨(by rw [hb]; rfl), rfl⟩
  · repeat' (first | tb_start | with_reducible first | refine ex_cons ?_ | refine ex_If ?_)
    exact ⟨(by rw [hb]; rfl), rfl⟩
-- EU
@[reducible] noncomputable def scopeG : Scope := { kind := .function, names := [(Str.ofString ".0", .local), (Str.ofString "arg", .local), (Str.ofString "quote", .globalImplicit)], isGenerator := true, isCoroutine := false }
theorem keep_quote {w : World} : KeepOk (WW w) (.ref 879) := by (first | exact keep_B | exact keep_T | exact keep_K (by (((try dsimp only [WW]); k_is))))
theorem nsIn_quote {w : World} : nsIn (WW w).K mainGlobals (Str.ofString "quote") = some (some (.ref 879)) := by (((try dsimp only [WW]); k_is))
theorem elt_quote {w : World} {A : Around} {s : Shared} {L : List Str} {t : Tok} {E : Value → Shared → Prop} {C : Addr} {code : Value} {bi : Addr} {env : Env} {m : Str → Option Value} {p1 p2 p3 : Pos}
    (hR : Room A 3) (hS : Std (WW w) s.heap) (hL : okN L) (h2 : 2 ≤ L.length) (hn : s.heap.Ns C m) (hm : m (Str.ofString "arg") = some (.str (pathOf L) t)) (hg : env.globals = mainGlobals) :
    wpAny (WW w).M A (eval (.Call (.Name (Str.ofString "quote") p1) [.Name (Str.ofString "arg") p2] [] p3) (genEnv scopeG [] C code bi env)) (fun v s' => (∃ t', v = .str (quoteL L) t') ∧ Keeps s s') E s := by
  obtain ⟨mg, mb, T⟩ := hS.T
  refine wpAny_Call_ofName ?_
  refine Name_function_global (env := genEnv scopeG [] C code bi env) rfl rfl (loadGlobal_global (env := genEnv scopeG [] C code bi env) (by show s.heap.Ns env.globals mg; rw [hg]; exact T.g) (mg_of hS.X T.g nsIn_quote) ?_) rfl
  refine callWith_of (P := (WW w).K.In) (keywords := []) rfl keep_quote (wp_evalArgs rfl ?_)
  refine spliced_cons (wpAny_Name (wpAny_loadName_local (env := genEnv scopeG [] C code bi env) rfl rfl hn hm ?_) rfl)
  refine spliced_nil ⟨hS.X, ?_⟩
  exact raw_quote hR hS hL h2
theorem code_join (P : Params) : ∃ oc, (Mine.K39 P).lookup 870 = some oc ∧ ∃ vs file tf flags tg inF text tt, oc.cls = .type "code" ∧ oc.data = .fields vs ∧ vs[11]? = some (.ref 866) ∧ vs.getD 11 .none = .ref 866 ∧ vs.getD 18 .none = .str file tf ∧
    vs.getD 7 .none = .int flags tg ∧ vs.getD 9 .none = .bool inF ∧ vs.getD 10 .none = .int text tt := by
  refine ⟨_, by (((try dsimp only [WW]); k_is)), _, _, _, _, _, _, _, _, rfl, rfl, rfl, rfl, rfl, rfl, rfl, rfl⟩
theorem head_join {w : World} {h : Heap} (X : (WW w).K.In h) : CodeHd h 870 866 := by
  obtain ⟨oc, h1, vs, file, tf, flags, tg, inF, text, tt, h2⟩ := code_join w.params
  exact ⟨oc, vs, file, tf, flags, tg, inF, text, tt, X _ _ h1, h2.1, h2.2.1, h2.2.2.1, h2.2.2.2.1, h2.2.2.2.2.1, h2.2.2.2.2.2.1, h2.2.2.2.2.2.2.1, h2.2.2.2.2.2.2.2, by decide⟩
/-- the module of the builtins stands at its place -/
noncomputable def BmAt (h : Heap) : Prop := ∃ ob, h.get? 4 = some ob ∧ ob.cls = .type "module" ∧ ob.dict = some builtinsNs ∧ ob.data = .plain
theorem nsIn_bm {w : World} : nsIn (WW w).K mainGlobals (Str.ofString "__builtins__") = some (some (.ref 4)) := by (((try dsimp only [WW]); k_is))
theorem clos_G (env : Env) : closureFor scopeG env = pure [] := by rfl
theorem strValues_get {l : List (Str × Tok)} {j : Nat} {p : Str × Tok} (h : l[j]? = some p) : (strValues l)[j]? = some (.str p.1 p.2) := by
  unfold strValues; rw [List.getElem?_map, h]; rfl
theorem texts_of {l : List (Str × Tok)} {qs : List Str} (h : ItemsOf (fun j y => ∃ q t, qs[j]? = some q ∧ y = .str q t) (strValues l).toArray qs.length) : l.map (·.1) = qs := by
  obtain ⟨h1, h2⟩ := h
  have hl : l.length = qs.length := by
    rw [List.size_toArray] at h1; unfold strValues at h1; rw [List.length_map] at h1; exact h1
  apply List.ext_getElem?
  intro j
  rw [List.getElem?_map]
  cases hj : l[j]? with
  | none =>
    have : qs.length ≤ j := by rw [← hl]; exact List.getElem?_eq_none_iff.mp hj
    rw [List.getElem?_eq_none this]; rfl
  | some p =>
    obtain ⟨q, t, e1, e2⟩ := h2 j _ (by rw [List.getElem?_toArray]; exact strValues_get hj)
    rw [e1]
    cases e2
    rfl
theorem passing_all (n : Nat) : passing (fun _ => true) n 0 = List.range n := by
  unfold passing; rw [List.drop_zero, List.filter_eq_self]; intro _ _; rfl
theorem range_get {n i j : Nat} (h : (List.range n)[j]? = some i) : i = j := by
  obtain ⟨h1, h2⟩ := List.getElem?_eq_some_iff.mp h
  rw [List.getElem_range] at h2; exact h2.symm
theorem VRel.strsGet {ρ : List Addr} {xs : List Str} {vs : List Value} {i : Nat} {v : Value} (h : VRel ρ (xs.map AV.str) vs) (hv : vs[i]? = some v) : ∃ x t, xs[i]? = some x ∧ v = .str x t := by
  cases hx : xs[i]? with
  | none =>
    have h1 : xs.length ≤ i := List.getElem?_eq_none_iff.mp hx
    have h2 := h.length
    rw [List.length_map] at h2
    rw [List.getElem?_eq_none (by lsm_bools)] at hv; cases hv
  | some x =>
    obtain ⟨u, h1, t, h2⟩ := h.get (i := i) (a := .str x) (by rw [List.getElem?_map, hx]; rfl)
    rw [h1] at hv; cases hv
    exact ⟨x, t, rfl, h2⟩
theorem ev_joinGen {w : World} {c : Cx} {st : St} {k kt : Nat} {Ls : List (List Str)} {Q : AV → St → Prop} {pl : Sem Bool} {k0 : Nat} {p0 p1 p2 p3 p4 p5 p6 p7 p8 : Pos}
    (hc : c.code = .ref 870) (hroom : 10 ≤ c.room) (hv : st.m.lookup (Str.ofString "split_command") = some (.obj k)) (hsc : c.scope.names.lookup (Str.ofString "split_command") = some .local)
    (hk : st.os[k]? = some (.list ((Ls.map pathOf).map .str))) (ht : st.os[kt]? = some (tabO kt 866 #[])) (hb : ∀ x ∈ st.gn, x.bare = true)
    (hbm : BmAt c.g) (hL : ∀ L ∈ Ls, okN L ∧ 2 ≤ L.length) (hz : Ls.length ≤ 100)
    (he : eval (.Call (.Attribute (.Constant (.str (Str.ofString " ")) k0 p0) (Str.ofString "join") p1) [.GeneratorExp (.Call (.Name (Str.ofString "quote") p2) [.Name (Str.ofString "arg") p3] [] p4) [⟨.Name (Str.ofString "arg") p5, .Name (Str.ofString "split_command") p6, [], 0⟩] scopeG p7] [] p8) c.env = (do
      let ov ← eval (.Constant (.str (Str.ofString " ")) k0 p0) c.env
      standAt p1.atName
      let (f, first) ← holding [ov] (getMethod ov (Str.ofString "join") pl)
      callWith p8 f first (backTo p8 (starEach [.GeneratorExp (.Call (.Name (Str.ofString "quote") p2) [.Name (Str.ofString "arg") p3] [] p4) [⟨.Name (Str.ofString "arg") p5, .Name (Str.ofString "split_command") p6, [], 0⟩] scopeG p7] c.env)) (backToKw p8 (keywordEach [] c.env))))
    (h : ∀ gn' ps, (∀ x ∈ gn', x.bare = true) → Q (.str (Str.join (Str.ofString " ") (Ls.map quoteL))) { st with os := st.os.set kt (tabO kt 866 ps), gn := gn' }) :
    Ev (WW w) c st (eval (.Call (.Attribute (.Constant (.str (Str.ofString " ")) k0 p0) (Str.ofString "join") p1) [.GeneratorExp (.Call (.Name (Str.ofString "quote") p2) [.Name (Str.ofString "arg") p3] [] p4) [⟨.Name (Str.ofString "arg") p5, .Name (Str.ofString "split_command") p6, [], 0⟩] scopeG p7] [] p8) c.env) Q := fun ρ s E r => by
  with_reducible refine methodCall_KW (pl := pl) (wpAny_Constant_str ?_) he
  with_reducible refine getMethod_builtin (T := "str") (PySem.typeIs_str _ _ _) PySem.F.plainAttrs_str PySem.F.slot_str_join PySem.F.type_str_join (fun a' e => by cases e) ?_
  refine callWith_of (P := (WW w).K.In) (keywords := []) rfl keep_B (wp_evalArgs rfl ?_)
  have r1 := r.toks (s.toks + 1)
  obtain ⟨M, hn, hl⟩ := r1.ns
  obtain ⟨v, hM, a, ha, hv'⟩ := hl _ _ hv
  subst hv'
  obtain ⟨al, vs, n, e1, h1, h2, h3⟩ := r1.list hk ⟨a, ha, rfl⟩
  cases e1
  have hvl : vs.length = Ls.length := by have := h3.length; simpa using this
  obtain ⟨aP, oP, hP1, hP2, hP3, hP4⟩ := r1.objs.at_ kt _ ht
  subst hP4
  have eP : aP = 866 := Option.some.inj (hP1.symm.trans hP3)
  subst eP
  have hroom1 := r.room
  have hlt : a < s.heap.objs.size := Heap.lt_size h2
  have hlist : Heap.IsList s.heap a (List.toArray vs) := ⟨_, h2, rfl, n, rfl⟩
  obtain ⟨mg, mb, T⟩ := r.ok.T
  have old1 : ∀ b o, s.heap.get? b = some o → (s.heap.push { cls := .type "list_iterator", data := .fields #[.ref a, .int 0 0] }).get? b = some o := fun b o e => Heap.get?_push_of_some _ e
  refine spliced_cons (wpAny_GeneratorExp_walksQD (cl := []) r.ok.hd rfl (clos_G _) (by decide) rfl rfl rfl (by have := r.ok.dep; lsm_bools) ?_ (fun x => rfl))
  refine wpAny_Name (wpAny_loadName_local (env := c.env) r.ok.kind hsc hn hM ?_) rfl
  refine wpAny_pyIter_list hlist ?_
  refine ⟨(T.nolimit.keeps r.keep).keeps old1, ?_⟩
  have hCd : CodeHd (s.heap.push { cls := .type "list_iterator", data := .fields #[.ref a, .int 0 0] }) 870 866 := (head_join r.X).keeps old1
  refine wpAny_genexprCodeX (c := 870) (P := 866) (ps := #[]) hc (hCd.code (old1 _ _ hP2) trivial) (hCd.tab (old1 _ _ hP2)) rfl (fun c' h' tk hx hge hlt' hic hrec htb htab => ?_)
  have hne866 : s.heap.objs.size ≠ 866 := Nat.ne_of_gt (Heap.lt_size hP2)
  have hstd : Std (WW w) h' := by
    refine Std.keeps ⟨r.ok.X, r.ok.T⟩ fun b o e => hx b o (fun q => ?_) (old1 _ _ (r.keep b o e))
    have := (r.fresh 866 (List.mem_of_getElem? hP1)).2
    rw [← q, e] at this; cases this
  obtain ⟨ob4, b1, b2, b3, b4⟩ := hbm
  obtain ⟨mg5, mb5, T5⟩ := hstd.T
  refine wpAny_builtinsFor T5.g (mg_of hstd.X T5.g nsIn_bm) (by decide) (hx _ _ (by decide) (old1 _ _ (r.keep _ _ b1))) b2 b3 b4 ?_
  have ha866 : a ≠ 866 := fun q => by
    rw [q] at h2
    rw [hP2] at h2
    cases h2
  have hit : Heap.IsListIter (s.heap.push { cls := .type "list_iterator", data := .fields #[.ref a, .int 0 0] }) s.heap.objs.size a 0 := ⟨_, Heap.get?_push_size _ rfl, rfl, rfl⟩
  have hsz' : s.heap.objs.size < h'.objs.size := Heap.lt_size (hx _ _ hne866 (Heap.get?_push_size _ rfl))
  refine ⟨s.heap.objs.size, [s.heap.objs.size, a], [s.heap.objs.size], _, _, _, fun _ => true, fun i y => ∃ L t, Ls[i]? = some L ∧ y = .str (quoteL L) t, rfl, fun A' hA => Walks.list hA _ _ (Nat.ne_of_lt hlt) vs.toArray, ⟨?_, ?_⟩, ?_, ?_, ?_, fun href hhr => ⟨?_, ?_⟩, fun a5 h5 tk5 gs hgs hlt5 hsz5 hk5 W5 G5 => ?_⟩
  · exact ⟨_, hx _ _ hne866 (Heap.get?_push_size _ rfl), rfl, rfl⟩
  · exact ⟨_, hx _ _ ha866 (old1 _ _ h2), rfl, n, rfl⟩
  · intro b hb
    simp only [List.mem_cons, List.not_mem_nil, or_false] at hb
    rcases hb with hb | hb
    · rw [hb]; exact hsz'
    · rw [hb]; exact Nat.lt_trans hlt hsz'
  · let ⟨mg, mb, T⟩ := hstd.T; exact T.nolimit
  · intro hm
    simp only [List.mem_cons, List.not_mem_nil, or_false] at hm
    obtain ⟨mc, hns, _⟩ := T.nolimit.keeps r.keep
    exact absurd hns.lt (by rw [hm]; exact Nat.lt_irrefl _)
  · intro A' E' i v s₂ m₂ hA hd hu hPv hn₂ hm₂ hk₂
    exact wpAny_pure ⟨rfl, s₂.heap, s₂.toks, rfl, fun _ _ e => e⟩
  · intro A' E' i v s₂ m₂ hA hd hu hPv hpz hn₂ hm₂ hk₂
    have hPv' : vs[i]? = some v := by rw [← List.getElem?_toArray]; exact hPv
    obtain ⟨x, t, hx1, rfl⟩ := h3.strsGet hPv'
    rw [List.getElem?_map] at hx1
    cases hLi : Ls[i]? with
    | none => rw [hLi] at hx1; cases hx1
    | some L =>
      rw [hLi] at hx1
      cases hx1
      obtain ⟨o1, o2⟩ := hL L (List.mem_of_getElem? hLi)
      have hstd2 : Std (WW w) s₂.heap := by
        refine Std.keeps ⟨r.ok.X, r.ok.T⟩ fun b o e => ?_
        have e1 := r.keep b o e
        have e2 : h'.get? b = some o := hx b o (fun q => by have := (r.fresh 866 (List.mem_of_getElem? hP1)).2; rw [← q, e] at this; cases this) (old1 _ _ e1)
        refine hk₂ b (List.mem_range.mpr (Heap.lt_size e2)) (fun q => ?_) o (hhr b o e2)
        simp only [List.mem_cons, List.not_mem_nil, or_false] at q
        rw [q] at e1
        exact absurd (Heap.lt_size e1) (Nat.lt_irrefl _)
      refine wpAny_mono (elt_quote ⟨?_, ?_, hA⟩ hstd2 o1 o2 hn₂ hm₂ rfl) (fun y s3 ⟨⟨t', e⟩, kp⟩ => ⟨⟨L, t', rfl, e⟩, kp⟩) fun _ _ x => x
      · have := r.ok.dep; lsm_bools
      · have := r.ok.un; lsm_bools
  · have X5 : (WW w).K.In h5 := hstd.X.keeps hk5
    have hlt5' : h'.objs.size < a5 := hlt5
    have hsz5' : h5.objs.size = a5 + 1 := hsz5
    have hsz2 : s.heap.objs.size < h'.objs.size := hsz'
    refine spliced_nil ⟨X5, ?_⟩
    have hps : (passing (fun _ => true) (List.toArray vs).size 0).length = Ls.length := by rw [passing_all, List.length_range, List.size_toArray, hvl]
    refine SC.joinGen (A := c.A) (WalksS.in4_2 W5) (fun i s st => st.1.typeIs) G5 ?_ (List.mem_cons_self ..) ?_ (fun s' l hmv hit => ?_) (by rw [hps]; unfold sizeLine; lsm_bools)
    · intro b hb
      show b < h5.objs.size
      rcases List.mem_cons.mp hb with hb | hb
      · rw [hb, hsz5']; exact Nat.lt_succ_self _
      · rcases List.mem_cons.mp hb with hb | hb
        · rw [hb, hsz5']; exact Nat.lt_succ_of_lt hlt5'
        · have h7 : b < h'.objs.size := List.mem_range.mp hb
          rw [hsz5']; exact Nat.lt_succ_of_lt (Nat.lt_trans h7 hlt5')
    · intro i v ⟨j, hj, L, t, _, e⟩
      exact ⟨_, _, e⟩
    · have hit2 : ItemsOf (fun j y => ∃ q t, (Ls.map quoteL)[j]? = some q ∧ y = .str q t) (strValues l).toArray (Ls.map quoteL).length := by
        rw [List.length_map, ← hps]
        refine ⟨hit.1, fun j v hj => ?_⟩
        obtain ⟨i, hi, L, t, hLi, e⟩ := hit.2 j v hj
        rw [passing_all] at hi
        cases range_get hi
        exact ⟨quoteL L, t, by rw [List.getElem?_map, hLi]; rfl, e⟩
      have htx := texts_of hit2
      rw [htx]
      have hlen : ((Ls.map quoteL).map (·.length)).sum ≤ (Ls.map quoteL).length * 130 := PySem.StrLaws.sumLen_le _ fun y hy => by
        obtain ⟨L, hL1, rfl⟩ := List.mem_map.mp hy
        exact (lex_ok (hL L hL1).1 (hL L hL1).2).len
      refine ⟨?_, fun t' k' => ?_⟩
      · unfold JoinOk
        rw [PySem.StrLaws.joinTotal]
        unfold Builtin.Str.tooLong sizeLine
        have e1 : (Str.ofString " ").length = 1 := rfl
        have e2 : (Ls.map quoteL).length = Ls.length := List.length_map ..
        rw [e1, e2]
        rw [e2] at hlen
        generalize ((Ls.map quoteL).map (·.length)).sum = q at *
        simp
        lsm_bools
      · have hold : ∀ b o, b ≠ 866 → s.heap.get? b = some o → s'.heap.get? b = some o := fun b o hb e => by
          refine hmv.heap b o (fun q => ?_) (hk5 b o (hx b o hb (old1 b o e)))
          have hb2 := Heap.lt_size e
          simp only [List.mem_cons, List.not_mem_nil, or_false] at q
          rcases q with q | q
          · have q' : b = h'.objs.size := q
            rw [q'] at hb2; exact absurd (Nat.lt_trans hb2 hsz2) (Nat.lt_irrefl _)
          · rw [q] at hb2; exact absurd hb2 (Nat.lt_irrefl _)
        have h866 : s'.heap.get? 866 = some (tabObj (#[] ++ #[rawInt p7.line, rawInt p7.col, .ref c'])) := by
          refine hmv.heap 866 _ (fun q => ?_) (hk5 866 _ htb.2)
          have hb2 := Heap.lt_size hP2
          simp only [List.mem_cons, List.not_mem_nil, or_false] at q
          rcases q with q | q
          · have q' : 866 = h'.objs.size := q
            rw [q'] at hb2; exact absurd (Nat.lt_trans hb2 hsz2) (Nat.lt_irrefl _)
          · exact hne866 q.symm
        have r2 := (r.alter (n := k') (o' := tabO kt 866 (#[] ++ #[rawInt p7.line, rawInt p7.col, .ref c'])) hP1 hold h866 ⟨hP1, rfl⟩).regen s'.gens
        have hbare : ∀ x ∈ s'.gens, x.bare = true := by
          refine hmv.gens.bare fun y hy => ?_
          rcases Array.mem_push.mp hy with hy | hy
          · exact hb y (by rw [← r.gens]; exact hy)
          · rw [hy]; exact hgs
        refine ⟨[], .str (Str.join (Str.ofString " ") (Ls.map quoteL)), _, ?_, ⟨t', by rw [eq_of_beq (join_plain_closes _ _)]⟩, h s'.gens (#[] ++ #[rawInt p7.line, rawInt p7.col, .ref c']) hbare⟩
        rw [List.append_nil]
        have e1 : ({ s' with toks := k' } : Shared) = { s with heap := s'.heap, gens := s'.gens, toks := k' } := by
          have d1 := hmv.drawn
          have d2 := hmv.os
          cases s'
          simp only at d1 d2
          subst d1; subst d2
          rfl
        rw [e1]
        exact r2
theorem BmAt.keeps {h h' : Heap} (x : BmAt h) (k : ∀ b o, h.get? b = some o → h'.get? b = some o) : BmAt h' := let ⟨o, e, r⟩ := x; ⟨o, k _ _ e, r⟩
theorem spec_join {w : World} {c : Cx} {st : St} {k kt : Nat} {Ls : List (List Str)} {Q : AV → St → Prop} (hroom : 11 ≤ c.room) (hbm : BmAt c.g)
    (hk : st.os[k]? = some (.list ((Ls.map pathOf).map .str))) (ht : st.os[kt]? = some (tabO kt 866 #[])) (hb : ∀ x ∈ st.gn, x.bare = true)
    (hL : ∀ L ∈ Ls, okN L ∧ 2 ≤ L.length) (hz : Ls.length ≤ 100)
    (h : ∀ gn' ps, (∀ x ∈ gn', x.bare = true) → Q (.str (Str.join (Str.ofString " ") (Ls.map quoteL))) { st with os := st.os.set kt (tabO kt 866 ps), gn := gn' }) :
    CallV (WW w) c st (.ref 871) [.obj k] Q := by
  refine' call_posX (m0 := [(Str.ofString "split_command", .obj k)]) ?ho ?hcd ?room ?hb ?hm ?hloc ?c1 ?c2 ?c3 ?c4 ?_
  case ho => (((try dsimp only [WW]); k_is))
  case hcd => (((try dsimp only [WW]); k_is))
  case c1 => exact rfl
  case c2 => exact rfl
  case c3 => exact rfl
  case c4 => decide
  case hm => (simp only [List.map_cons, List.map_nil]; decide)
  case hloc => (simp only [List.map_cons, List.map_nil]; decide)
  case room => lsm_bools
  case hb => (refine hb1 ?_; intro a; kernel_rfl)
  intro c' hs hcl hrm hcode hg
  refine ex_cons (ex_Return ?_)
  refine' ev_joinGen (k := k) (kt := kt) (Ls := Ls) (pl := ?pl) hcode (by lsm_bools) ?hv ?hsc hk ht hb (hbm.keeps hg) hL hz ?he ?_
  case he => rfl
  case hv => kct_strs
  case hsc => rw [hs]; rfl
  intro gn' ps hgn
  exact seq_ret (h gn' ps hgn)
-- WQ
section
variable {W : Wd} {c : Cx} {st : St}
/-- a call with one value and one named value -/
theorem ev_CallKw {x y : Str} {np pos kp : Pos} {e1 e2 : Expr} {Q : AV → St → Prop} (hs : starEach [e1] c.env = [(false, eval e1 c.env)])
    (h : Ev W c st (eval (.Name x np) c.env) (fun fa st1 => ∃ f, fa = .fix f ∧ KeepOk W f ∧ Ev W c st1 (eval e1 c.env) (fun a st2 => Ev W c st2 (eval e2 c.env) (fun b st3 => CallK W c st3 f [a] [(y, b)] Q)))) :
    Ev W c st (eval (.Call (.Name x np) [e1] [⟨some y, e2, kp⟩] pos) c.env) Q := fun ρ s E r => by
  refine wpAny_Call_ofName (wp_on h r fun ρ1 a st1 v s1 r1 ra ⟨f, ef, hk, h1⟩ => ?_)
  subst ef
  cases (show v = f from ra)
  rw [hs]
  refine callWith_of (P := W.K.In) rfl hk (evalArgs_kw rfl (spliced_cons (wp_on h1 r1 fun ρ2 a2 st2 v2 s2 r2 ra2 h2 => spliced_nil ?_)))
  show wpAny W.M c.A (evalAll [eval e2 c.env >>= fun v => standAt pos >>= fun _ => pure v]) _ E s2
  refine wpAny_evalAll_cons (wpAny_bind (wp_on h2 r2 fun ρ3 a3 st3 v3 s3 r3 ra3 h3 => wpAny_bind (wpAny_standAt (wpAny_pure (wpAny_evalAll_nil ⟨r3.X, ?_⟩)))))
  rw [List.append_assoc ρ ρ1, List.append_assoc ρ] at r3 ra3
  rw [List.append_assoc ρ ρ1] at ra2
  refine wpAny_mono (h3 _ s3 E [v2] [(y, v3)] r3 ⟨v2, [], rfl, by rw [← List.append_assoc ρ]; exact ra2.mono, rfl⟩ ⟨v3, [], rfl, ra3, rfl⟩) (fun _ _ p => Post.ext p) fun _ _ x => x
/-- a builtin's loop that takes what an iterator gives into a list, by states -/
theorem extend_raw {A : Around} {S I : Addr} {res : Value} {R : Result → Shared → Prop} (J : Nat → Shared → Prop)
    (turn : ∀ n s, J n s → wpAny W.M A.in1 (pyNext (.ref I)) (fun o s1 => match o with
      | none => R (.ok (.ret res)) s1
      | some v => ∃ vs cc, s1.heap.get? S = some (PySem.W.listOf (List.toArray vs) cc) ∧ vs.length ≤ 100000 ∧ ∃ m, m < n ∧ J m { s1 with heap := s1.heap.update S (Obj.mapSeq (·.push v)) }) (fun e s' => R (.error e) s') s) :
    ∀ (n : Nat) (s : Shared), J n s → codeAny W.M A (.builtin "list.extend.loop" ⟨[.ref S, .ref I, res], []⟩) R s := by
  intro n
  induction n using Nat.strongRecOn with
  | ind n ih =>
    intro s hJ
    refine codeAny_builtin PySem.F.entry_extend_loop ?_
    rw [Around.under_plainId PySem.F.plain_extend_loop _]
    show wpAny _ A.in1 (pyNext (.ref I) >>= _) _ _ s
    refine wpAny_bind (wpAny_mono (turn n s hJ) (fun o s1 p => ?_) fun _ _ x => x)
    cases o with
    | none => exact wpAny_pure p
    | some v =>
      obtain ⟨vs, cc, h3, hlen, m, hm, hJ'⟩ := p
      show wpAny _ A.in1 (updateSeq S (·.push v) >>= _) _ _ _
      refine wpAny_bind ?_
      refine wpAny_updateSeq h3 rfl (wpAny_pure ⟨plainId_quiet PySem.F.plain_extend_loop _, ih m hm _ hJ'⟩) ?_ ?_
      · simp only [List.size_toArray]; unfold sizeLine; lsm_bools
      · have e3 : ((List.toArray vs).push v) = List.toArray (vs ++ [v]) := by simp
        rw [e3]; simp only [List.size_toArray, List.length_append, List.length_cons, List.length_nil]; unfold sizeLine; lsm_bools
/-- a call of a function, by states -/
theorem raw_call {ρ : List Addr} {s : Shared} {f : Addr} {vs : List Value} {ks : List (Str × Value)} {m0 : List (Str × AV)} {R : Value → Shared → Prop} {Re : Value → Shared → Prop} {name qual : Str} {params : Arguments} {body : List Stmt} {scope : Scope} {dV kV doc pm cdv ct oc : Value} {an od : Option Addr} {osl : Array (Option Value)}
    (r : Rp W c ρ st s)
    (ho : W.K.lookup f = some ⟨oc, od, .func (fnOf name qual params body scope dV kV doc pm an cdv ct), osl⟩) (hcd : codeIn W.K cdv qual = true) (hroom : 1 ≤ c.room)
    (hb : ∃ binds, BindsTo s (fnOf name qual params body scope dV kV doc pm an cdv ct) ⟨vs, ks⟩ binds ∧ MRel ρ m0 binds)
    (hm : (m0.map (·.1)).Nodup) (hloc : ∀ y ∈ m0.map (·.1), scope.names.lookup y = some .local)
    (hco : scope.isCoroutine = false) (hgen : scope.isGenerator = false) (hk : scope.kind = .function) (hcell : ∀ x ∈ scope.names, x.2 ≠ .cell)
    (h : ∀ (c' : Cx) (s1 : Shared), c'.scope = scope → c'.cl = [] → c'.room + 1 = c.room → c'.A = c.A.deeper c'.env → c'.frame = some c'.L → c'.g = hideAll s.heap ρ → c'.os0 = c.os0 → Rp W c' ρ { m := m0, os := st.os, gn := st.gn } s1 →
      wpAny W.M c'.A (execs body c'.env) (fun fl s' => R (match fl with | .ret v => v | _ => .none) s')
        (fun e s' => wpAny W.M c'.A (leaving c'.env e) (fun _ s'' => Re e s'') (fun e' s'' => Re e' s'') s') s1) :
    wpAny W.M c.A (call (.ref f) vs ks) R Re s := by
  obtain ⟨binds, hbt, hbr⟩ := hb
  obtain ⟨mg, mb, T⟩ := r.ok.T
  refine wpAny_call (codeAny_call_def (fd := fnOf name qual params body scope dV kV doc pm an cdv ct) (body := body) (binds := binds) (by have := r.ok.dep; lsm_bools) (r.X _ _ ho) rfl (T.nolimit.keeps r.keep) (codeRec_of r.X hcd) rfl hbt hcell ?_ (fun h₁ hns hk₁ => ?_) hco hgen hk)
  · intro x hx
    exact hloc x.1 (by rw [← hbr.keys]; exact List.mem_map_of_mem hx)
  · let c' : Cx := { A := c.A.deeper (callEnv (fnOf name qual params body scope dV kV doc pm an cdv ct) s.heap.objs.size f), g := hideAll s.heap ρ, room := c.room - 1, L := s.heap.objs.size, scope := scope, cells := [], qual := qual ++ ".<locals>.", func := some f, code := cdv, frame := some s.heap.objs.size, cl := [], os0 := c.os0 }
    have hn : (binds.map (·.1)).Nodup := by rw [hbr.keys]; exact hm
    have r' : Rp W c' ρ { m := m0, os := st.os, gn := st.gn } { s with heap := h₁, toks := s.toks + binds.length } := by
      refine ⟨r.ok.enter (A := c'.A) (env := callEnv (fnOf name qual params body scope dV kV doc pm an cdv ct) s.heap.objs.size f) r hroom rfl hk rfl rfl (by show c.room - 1 + 1 = c.room; lsm_bools), ⟨_, hns, fun x a e => ?_⟩, fun b o e => hk₁ b o (of_hideAll _ e), Nat.le_of_eq (hideAll_size _ _), ⟨r.objs.len, fun k o e => ?_⟩, fun a ha => ⟨Nat.ne_of_lt (r.lt ha), hideAll_none _ ha⟩, r.nodup, fun x k e => (by cases e), r.gens, r.os⟩
      · obtain ⟨v, e1, e2⟩ := hbr.get e
        exact ⟨v, by rw [lookup_nodup_rev hn]; exact e1, e2⟩
      · obtain ⟨a, ob, e1, e2, e3⟩ := r.objs.at_ k o e
        exact ⟨a, ob, e1, hk₁ _ _ e2, e3⟩
    exact h c' _ rfl rfl (by show c.room - 1 + 1 = c.room; lsm_bools) rfl rfl rfl rfl r'
/-- all but the slots of some frames is as it was -/
structure FrUp (S : List Addr) (h h' : Heap) : Prop where
  keep : ∀ b o, b ∉ S → h.get? b = some o → h'.get? b = some o
  up : ∀ b o, h.get? b = some o → (∀ vs, o.data ≠ .fields vs) → ∃ sl, h'.get? b = some { o with slots := sl }
theorem Rp.slots {ρ : List Addr} {s : Shared} {S : List Addr} {h' : Heap} (r : Rp W c ρ st s) (hs : FrUp S s.heap h') (h1 : ∀ b ∈ S, b ∉ ρ) (h2 : ∀ b ∈ S, c.g.get? b = none) : Rp W c ρ st { s with heap := h' } := by
  obtain ⟨M, ⟨oL, es, ep, e1, e2, e3, e4⟩, hL⟩ := r.ns
  obtain ⟨sl, e5⟩ := hs.up _ _ e1 (fun vs q => by rw [e2] at q; cases q)
  refine ⟨r.ok, ⟨M, ⟨_, es, ep, e5, e2, e3, e4⟩, hL⟩, fun b o e => hs.keep b o (fun q => ?_) (r.keep b o e), r.above, ⟨r.objs.len, fun k o e => ?_⟩, r.fresh, r.nodup, r.cells, r.gens, r.os⟩
  · have := h2 b q; rw [e] at this; cases this
  · obtain ⟨a, ob, e6, e7, e8⟩ := r.objs.at_ k o e
    exact ⟨a, ob, e6, hs.keep _ _ (fun q => h1 a q (List.mem_of_getElem? e6)) e7, e8⟩
/-- frames of functions, on a heap -/
noncomputable def FramesIn (h : Heap) (l : List Env) : Prop := ∀ env ∈ l, env.scope.kind ≠ .module ∧ ∃ L o, env.frame = some L ∧ h.get? L = some o ∧ ∀ vs, o.data ≠ .fields vs
theorem FramesIn.keeps {h h' : Heap} {l : List Env} (x : FramesIn h l) (k : ∀ b o, h.get? b = some o → h'.get? b = some o) : FramesIn h' l := fun env he =>
  let ⟨a, L, o, b, d, e⟩ := x env he; ⟨a, L, o, b, k _ _ d, e⟩
theorem FramesIn.cons {ρ : List Addr} {s : Shared} {l : List Env} (r : Rp W c ρ st s) (hf : c.frame = some c.L) (x : FramesIn s.heap l) : FramesIn s.heap (c.env :: l) := fun env he => by
  rcases List.mem_cons.mp he with e | he
  · subst e
    obtain ⟨M, ⟨oL, es, ep, e1, e2, _⟩, _⟩ := r.ns
    exact ⟨by rw [show c.env.scope.kind = .function from r.ok.kind]; nofun, c.L, oL, hf, e1, fun vs q => by rw [e2] at q; cases q⟩
  · exact x env he
theorem FramesIn.fun {h base : Heap} : ∀ {l : List Env}, FramesIn h l → (∀ b ∈ l.filterMap (·.frame), base.get? b = none) → h.FunFrames base l
  | [], _, _ => trivial
  | env :: l, x, hb => by
    obtain ⟨a, L, o, b, d, e⟩ := x env (List.mem_cons_self ..)
    rw [List.filterMap_cons, b] at hb
    exact ⟨a, ⟨L, o, b, hb L (List.mem_cons_self ..), d, e⟩, FramesIn.fun (fun env he => x env (List.mem_cons_of_mem _ he)) fun b hb' => hb b (List.mem_cons_of_mem _ hb')⟩
/-- leaving a function by a new exception -/
theorem leave_new {ρ : List Addr} {s : Shared} {h1 : Heap} {outer : List Env} {e : Addr} {R : Shared → Prop} {E : Value → Shared → Prop}
    (r : Rp W c ρ st s) (hf : c.frame = some c.L) (hfr : c.A.frames = some (c.env :: outer)) (hin : FramesIn s.heap outer) (hx : Heap.MadeExc s.heap h1 e "StopIteration" [])
    (h : ∀ h', FrUp ((c.env :: outer).filterMap (·.frame)) s.heap h' → (∃ o, h'.get? e = some o ∧ o.cls = .type "StopIteration") → R { s with heap := h' }) :
    wpAny W.M c.A (leaving c.env (.ref e)) (fun _ s'' => R s'') E { s with heap := h1 } := by
  have hfa : FramesIn s.heap (c.env :: outer) := FramesIn.cons r hf hin
  let base := hideAll s.heap ((c.env :: outer).filterMap (·.frame))
  have hfn : s.heap.FunFrames base (c.env :: outer) := hfa.fun fun b hb => hideAll_none _ hb
  obtain ⟨t, he, _, ht⟩ := hx.there
  have hen : base.get? e = none := by
    cases hq : base.get? e with
    | none => rfl
    | some o' => have := of_hideAll _ hq; rw [hx.new] at this; cases this
  refine wpAny_leaving_first (base := base) (s := { s with heap := h1 }) hfr (hfn.of_keeps fun b o hb _ => ⟨o, hx.keeps b o hb, rfl⟩) hf he (fun b o hb => hx.keeps b o (of_hideAll _ hb)) hen rfl rfl fun h' hL => ?_
  obtain ⟨k1, k2, k3, k4⟩ := hL
  refine h h' ⟨fun b o hb e => k1 b o (hideAll_ge e hb), fun b o e hd => k4 b o (hx.keeps b o e) hd⟩ ?_
  obtain ⟨oe, vs, T, oT, ts, q1, q2, _⟩ := k3
  exact ⟨oe, q1, q2⟩
end
-- EV
/-- __iter__ gives the lexer itself -/
theorem spec_liter {w : World} {c : Cx} {st : St} {k : Nat} {Q : AV → St → Prop} (hr : 1 ≤ c.room) (h : Q (.obj k) st) : CallV (WW w) c st (.ref 842) [.obj k] Q := by
  (refine' call_pos (m0 := [(Str.ofString "self", .obj k)]) ?ho ?hcd ?room ?hb ?hm ?hloc ?c1 ?c2 ?c3 ?c4 ?_; (case ho => (((try dsimp only [WW]); k_is))); (case hcd => (((try dsimp only [WW]); k_is))); (case c1 => exact rfl); (case c2 => exact rfl); (case c3 => exact rfl); (case c4 => decide); (case hm => (simp only [List.map_cons, List.map_nil]; decide)); (case hloc => (simp only [List.map_cons, List.map_nil]; decide)); (case room => lsm_bools); (case hb => first | (refine hb1 ?_; intro a; kernel_rfl) | (refine hb2 ?_; intro a b; kernel_rfl) | (refine hb3 ?_; intro a b d; kernel_rfl)))
  intro c' hs hcl hrm
  repeat' (first | tb_start | with_reducible first | refine ex_cons ?_ | refine ex_If ?_)
  exact h
/-- __next__ gives a token -/
theorem spec_next_tok {w : World} {c : Cx} {st : St} {k d ki di pb fs p : Nat} {x : Str} {piece rest tok : List Nat} {Q : AV → St → Prop} (hr : 6 ≤ c.room) (L : Lx st.os k d ki di pb fs x p (.str (Str.ofString " ")) (Str.ofString "")) (hz : x.length ≤ 10000) (hpl : p ≤ x.length)
    (hx : x.cps.toList.drop p = piece ++ rest) (hord : ∀ c ∈ piece, ordC c) (hne : piece.head? ≠ none ∧ piece.head? ≠ some 32) (hlex : lexW none [] piece = some tok) (htok : tok ≠ []) (hrest : rest = [] ∨ ∃ r, rest = 32 :: r)
    (h : ∀ os', ExtD d di st.os os' → Lx os' k d ki di pb fs x (p + piece.length + (if rest = [] then 0 else 1)) (if rest = [] then .none else .str (Str.ofString " ")) (Str.ofString "") → Q (.str ⟨tok.toArray⟩) { st with os := os' }) : CallV (WW w) c st (.ref 849) [.obj k] Q := by
  (refine' call_pos (m0 := [(Str.ofString "self", .obj k)]) ?ho ?hcd ?room ?hb ?hm ?hloc ?c1 ?c2 ?c3 ?c4 ?_; (case ho => (((try dsimp only [WW]); k_is))); (case hcd => (((try dsimp only [WW]); k_is))); (case c1 => exact rfl); (case c2 => exact rfl); (case c3 => exact rfl); (case c4 => decide); (case hm => (simp only [List.map_cons, List.map_nil]; decide)); (case hloc => (simp only [List.map_cons, List.map_nil]; decide)); (case room => lsm_bools); (case hb => first | (refine hb1 ?_; intro a; kernel_rfl) | (refine hb2 ?_; intro a b; kernel_rfl) | (refine hb3 ?_; intro a b d; kernel_rfl)))
  intro c' hs hcl hrm
  have hk1 := L.hk
  have hd1 := L.hd
  repeat' (first | tb_start | with_reducible first | refine ex_cons ?_ | refine ex_If ?_)
  ((refine' getM_inst ?hk ?hd ?hg ?hf ?ht ?hl ?hkeep ?_; (case hk => with_reducible assumption); (case hd => with_reducible assumption); (case hg => (((try dsimp only [WW]); k_is))); (case hf => (((try dsimp only [WW]); k_is))); (case ht => (((try dsimp only [WW]); k_is))); (case hl => kct_strs); (case hkeep => (first | exact keep_B | exact keep_T | exact keep_K (by (((try dsimp only [WW]); k_is)))))))
  repeat' (first | tb_start | with_reducible first | refine ex_cons ?_ | refine ex_If ?_)
  refine CodeV.call (spec_get_tok (by lsm_bools) L hz hpl hx hord hne hlex htok hrest fun os2 hE L2 => ?_)
  clear hk1 hd1
  have hk1 := L2.hk
  have hd1 := L2.hd
  repeat' (first | tb_start | with_reducible first | refine ex_cons ?_ | refine ex_If ?_)
  refine op_eqSN ?_
  repeat' (first | tb_start | with_reducible first | refine ex_cons ?_ | refine ex_If ?_)
  exact h os2 hE L2
theorem name_stop {w : World} {c : Cx} {ρ : List Addr} {st : St} {s : Shared} {E : Value → Shared → Prop} {pos : Pos} (r : Rp (WW w) c ρ st s) (hk : c.scope.names.lookup (Str.ofString "StopIteration") = some .globalImplicit) :
    wpAny (WW w).M c.A (eval (.Name (Str.ofString "StopIteration") pos) c.env) (fun v s₁ => v = .type "StopIteration" ∧ s₁ = s) E s := by
  obtain ⟨mg, mb, T⟩ := r.ok.T
  have e : nsIn (WW w).K mainGlobals (Str.ofString "StopIteration") = some none := by (((try dsimp only [WW]); k_is))
  exact Name_function_global (env := c.env) r.ok.kind hk (loadGlobal_builtin (env := c.env) (T.g.keeps r.keep) (mg_none_of r.ok.X T.g e) (T.b.keeps r.keep) ((T.builtins _ (by decide)).trans (by first | boot_by_name | boot_fast)) ⟨rfl, rfl⟩) rfl
theorem FramesIn.hide {h : Heap} {l : List Env} {ρ : List Addr} (x : FramesIn h l) (hout : ∀ b ∈ l.filterMap (·.frame), b ∉ ρ) : FramesIn (hideAll h ρ) l := fun env he =>
  let ⟨a, L, o, b, d, e⟩ := x env he; ⟨a, L, o, b, hideAll_ge d (hout L (List.mem_filterMap.mpr ⟨env, he, b⟩)), e⟩
theorem end_next {w : World} {c : Cx} {ρ : List Addr} {st : St} {s : Shared} {outer : List Env} {k d ki di pb fs a : Nat} {x : Str} {R : Shared → Prop} {E : Value → Shared → Prop} (hr : 6 ≤ c.room) (r : Rp (WW w) c ρ st s) (hfr : c.A.frames = some outer) (hin : FramesIn s.heap outer) (hout : ∀ b ∈ outer.filterMap (·.frame), b ∉ ρ)
    (L : Lx st.os k d ki di pb fs x x.length .none (Str.ofString "")) (hz : x.length ≤ 10000) (ha : ρ[k]? = some a)
    (h : ∀ ρ' os' sm h' L', Rp (WW w) c (ρ ++ ρ') ⟨st.m, os', st.gn⟩ sm → ExtD d di st.os os' → FrUp (L' :: outer.filterMap (·.frame)) sm.heap h' → L' ∉ ρ ++ ρ' → c.g.get? L' = none → R { sm with heap := h' }) :
    wpAny (WW w).M c.A (pyNext (.ref a)) (fun o s1 => o = none ∧ R s1) E s := by
  obtain ⟨a', dx, es, n, e, e1, e2, e3, I, hes⟩ := r.inst L.hk L.hd ⟨a, ha, rfl⟩
  cases e
  obtain ⟨M, F, hL⟩ := r.fr
  refine owit_next F r.ok.X I (by (((try dsimp only [WW]); k_is)) : findIn (WW w).K (.ref 852) "__next__" = some (some (.ref 849))) (by (((try dsimp only [WW]); k_is))) ?_
  refine' raw_call (m0 := [(Str.ofString "self", .obj k)]) r ?ho ?hcd (by lsm_bools) ?hb ?hm ?hloc ?c1 ?c2 ?c3 ?c4 ?_
  case ho => (((try dsimp only [WW]); k_is))
  case hcd => (((try dsimp only [WW]); k_is))
  case c1 => exact rfl
  case c2 => exact rfl
  case c3 => exact rfl
  case c4 => decide
  case hm => (simp only [List.map_cons, List.map_nil]; decide)
  case hloc => (simp only [List.map_cons, List.map_nil]; decide)
  case hb => exact ⟨[(Str.ofString "self", .ref a)], BindsTo.of_eq (by kernel_rfl), ⟨_, _, rfl, ⟨a, ha, rfl⟩, rfl⟩⟩
  intro c' s1 hs hcl hrm hA hf hg ho r'
  have key : ∀ (ρ' : List Addr) (os2 : List AO) (m2 : List (Str × AV)) (s2 : Shared), Rp (WW w) c' (ρ ++ ρ') ⟨m2, os2, st.gn⟩ s2 → ExtD d di st.os os2 → Lx os2 k d ki di pb fs x x.length .none (Str.ofString "") →
      ∀ h1 e, Heap.MadeExc s2.heap h1 e "StopIteration" [] → wpAny (WW w).M c'.A (leaving c'.env (.ref e)) (fun _ s'' => OwitStop (WW w).M c.A (fun o s1 => o = none ∧ R s1) E (.ref e) s'') (fun e' s'' => OwitStop (WW w).M c.A (fun o s1 => o = none ∧ R s1) E e' s'') { s2 with heap := h1 } := by
    intro ρ' os2 m2 s2 r2 hE L2 h1 e hx
    have rc := r.leave r2 hg ho
    refine leave_new r2 hf (by rw [hA]; exact Around.frames_deeper hfr) ((hin.hide hout).keeps (by rw [← hg]; exact r2.keep)) hx fun h' hup hth => ?_
    have hno : c.g.get? c'.L = none := by
      cases hq : c.g.get? c'.L with
      | none => rfl
      | some o =>
        have := r.keepH _ _ hq
        rw [← hg] at this
        exact absurd (Heap.lt_size this) (Nat.not_lt.mpr r'.above)
    have hl : (c'.env :: outer).filterMap (·.frame) = c'.L :: outer.filterMap (·.frame) := by
      rw [List.filterMap_cons, show c'.env.frame = some c'.L from hf]
    rw [hl] at hup
    unfold OwitStop
    refine wpAny_isInstance (T := "StopIteration") (b := true) hth isSubtype_stop ?_
    rw [if_pos rfl]
    exact ⟨rfl, h ρ' os2 s2 h' c'.L rc hE hup (fun q => (r2.fresh _ q).1 rfl) hno⟩
  have hk1 := L.hk
  have hd1 := L.hd
  refine wpAny_execs_cons (wp_on (rel := AF.rel) (Q := fun (fl : AF) (st1 : St) => fl = AF.next ∧ ∃ os2, st1 = ⟨putM (Str.ofString "token") .none [(Str.ofString "self", .obj k)], os2, st.gn⟩ ∧ ExtD d di st.os os2 ∧ Lx os2 k d ki di pb fs x x.length .none (Str.ofString "")) ?_ r' ?_)
  · repeat' (first | tb_start | with_reducible first | refine ex_cons ?_ | refine ex_If ?_)
    ((refine' getM_inst ?hk ?hd ?hg ?hf ?ht ?hl ?hkeep ?_; (case hk => with_reducible assumption); (case hd => with_reducible assumption); (case hg => (((try dsimp only [WW]); k_is))); (case hf => (((try dsimp only [WW]); k_is))); (case ht => (((try dsimp only [WW]); k_is))); (case hl => kct_strs); (case hkeep => (first | exact keep_B | exact keep_T | exact keep_K (by (((try dsimp only [WW]); k_is)))))))
    repeat' (first | tb_start | with_reducible first | refine ex_cons ?_ | refine ex_If ?_)
    refine CodeV.call (spec_get_end (by lsm_bools) L hz fun os2 hE L2 => ?_)
    repeat' (first | tb_start | with_reducible first | refine ex_cons ?_ | refine ex_If ?_)
    exact ⟨rfl, os2, rfl, hE, L2⟩
  · rintro ρ1 fl st1 v1 s2 r2 hfl ⟨rfl, os2, rfl, hE, L2⟩
    cases hfl
    clear hk1 hd1
    have hk1 := L2.hk
    have hd1 := L2.hd
    refine wpAny_execs_cons (wpAny_If (wp_on (rel := BR) (Q := fun (b : Bool) (st1 : St) => b = true ∧ st1 = ⟨putM (Str.ofString "token") .none [(Str.ofString "self", .obj k)], os2, st.gn⟩) ?_ r2 ?_))
    · repeat' (first | tb_start | with_reducible first | refine ex_cons ?_ | refine ex_If ?_)
      refine op_eqNN ?_
      repeat' (first | tb_start | with_reducible first | refine ex_cons ?_ | refine ex_If ?_)
      exact ⟨rfl, rfl⟩
    · rintro ρ2 b st2 vb s3 r3 hb ⟨rfl, rfl⟩
      cases hb
      rw [List.append_assoc] at r3
      refine wpAny_execs_cons ?_
      refine owsi_raiseC r3.ok.hd (name_stop r3 (by rw [hs]; rfl)) fun h1 e hx => ?_
      exact key _ _ _ _ r3 hE L2 h1 e hx
-- EW
theorem set_off {os : List AO} {j i : Nat} {o o' : AO} {l : List AV} (hj : os[j]? = some (.list l)) (hi : os[i]? = some o) (hn : ∀ l, o ≠ .list l) : (os.set j o')[i]? = some o := by
  have : j ≠ i := fun e => by subst e; rw [hj] at hi; cases hi; exact hn _ rfl
  rw [List.getElem?_set_ne this]; exact hi
theorem Lx.setL {os k d ki di pb fs x p state tok} {j : Nat} {l : List AV} {o' : AO} (L : Lx os k d ki di pb fs x p state tok) (hj : os[j]? = some (.list l)) : Lx (os.set j o') k d ki di pb fs x p state tok :=
  ⟨set_off hj L.hk nofun, set_off hj L.hd nofun, set_off hj L.hi nofun, set_off hj L.hj nofun, set_off hj L.hp nofun, set_off hj L.hf nofun, L.ne⟩
noncomputable def qP (L : List Str) : List Nat := (quoteL L).cps.toList
/-- the lexer before its i-th token -/
noncomputable def LxAt (Ls : List (List Str)) (x : Str) (k d ki di pb fs i : Nat) (os : List AO) : Prop :=
  (i < Ls.length ∧ ∃ p, p ≤ x.length ∧ x.cps.toList.drop p = lineN ((Ls.drop i).map qP) ∧ Lx os k d ki di pb fs x p (.str (Str.ofString " ")) (Str.ofString "")) ∨ (i = Ls.length ∧ Lx os k d ki di pb fs x x.length .none (Str.ofString ""))
theorem LxAt.setL {Ls x k d ki di pb fs i os} {j : Nat} {l : List AV} {o' : AO} (L : LxAt Ls x k d ki di pb fs i os) (hj : os[j]? = some (.list l)) : LxAt Ls x k d ki di pb fs i (os.set j o') := by
  rcases L with ⟨h1, p, h2, h3, h4⟩ | ⟨h1, h2⟩
  · exact .inl ⟨h1, p, h2, h3, h4.setL hj⟩
  · exact .inr ⟨h1, h2.setL hj⟩
theorem LxAt.ext {Ls x k d ki di pb fs i os os'} (L : LxAt Ls x k d ki di pb fs i os) (hE : Ext os os') : LxAt Ls x k d ki di pb fs i os' := by
  rcases L with ⟨h1, p, h2, h3, h4⟩ | ⟨h1, h2⟩
  · exact .inl ⟨h1, p, h2, h3, h4.ext hE⟩
  · exact .inr ⟨h1, h2.ext hE⟩
theorem path_ne (L : List Str) : (pathOf L).cps.toList ≠ [] := by
  intro e
  have h : (pathOf L).length = 0 := by
    show (pathOf L).cps.size = 0
    rw [← Array.length_toList, e]; rfl
  unfold pathOf at h
  rw [PySem.Str.length_append] at h
  have : (Str.ofString "/").length = 1 := rfl
  lsm_bools
/-- the i-th token -/
theorem next_at {w : World} {c : Cx} {st : St} {k d ki di pb fs i : Nat} {x : Str} {Ls : List (List Str)} {Q : AV → St → Prop} (hr : 6 ≤ c.room) (hL : ∀ L ∈ Ls, okN L ∧ 2 ≤ L.length) (hz : x.length ≤ 10000)
    (hA : LxAt Ls x k d ki di pb fs i st.os) {L : List Str} (hi : Ls[i]? = some L)
    (h : ∀ os', ExtD d di st.os os' → LxAt Ls x k d ki di pb fs (i + 1) os' → Q (.str (pathOf L)) { st with os := os' }) : CallV (WW w) c st (.ref 849) [.obj k] Q := by
  have hil := (List.getElem?_eq_some_iff.mp hi).1
  rcases hA with ⟨h1, p, h2, h3, h4⟩ | ⟨h1, _⟩
  · obtain ⟨o1, o2⟩ := hL L (List.mem_of_getElem? hi)
    have ok := lex_ok o1 o2
    have e1 : Ls.drop i = L :: Ls.drop (i + 1) := by
      rw [List.drop_eq_getElem_cons hil]
      rw [(List.getElem?_eq_some_iff.mp hi).2]
    rw [e1, List.map_cons] at h3
    obtain ⟨rest, f1, f2, f3⟩ := lineN_drop (qP L) ((Ls.drop (i + 1)).map qP)
    rw [f1] at h3
    have hrest : rest = [] ∨ ∃ r, rest = 32 :: r := by
      by_cases e : (Ls.drop (i + 1)).map qP = []
      · exact .inl (f2 e)
      · exact .inr ⟨_, f3 e⟩
    have ex : x.cps.toList.length = x.length := Array.length_toList ..
    have hlen := congrArg List.length h3
    rw [List.length_drop, List.length_append, ex] at hlen
    refine spec_next_tok hr h4 hz h2 h3 ok.ord ok.head ok.lex (path_ne L) hrest fun os' hE L2 => ?_
    have := h os' hE
    rw [show (⟨(pathOf L).cps.toList.toArray⟩ : Str) = pathOf L by generalize pathOf L = y; cases y; simp]
    refine this ?_
    by_cases e : i + 1 < Ls.length
    · refine .inl ⟨e, p + (qP L).length + 1, ?_, ?_, ?_⟩
      · have hne : (Ls.drop (i + 1)).map qP ≠ [] := by
          intro q
          have := congrArg List.length q
          simp at this
          lsm_bools
        rw [f3 hne] at hlen
        simp only [List.length_cons] at hlen
        lsm_bools
      · have hne : (Ls.drop (i + 1)).map qP ≠ [] := by
          intro q
          have := congrArg List.length q
          simp at this
          lsm_bools
        rw [f3 hne] at h3
        rw [show p + (qP L).length + 1 = p + ((qP L).length + 1) by lsm_bools, ← List.drop_drop, h3]
        simp
      · have hne : (Ls.drop (i + 1)).map qP ≠ [] := by
          intro q
          have := congrArg List.length q
          simp at this
          lsm_bools
        have hr2 : rest ≠ [] := by rw [f3 hne]; nofun
        rw [if_neg hr2, if_neg hr2] at L2
        exact L2
    · have e2 : i + 1 = Ls.length := by lsm_bools
      have hnil : (Ls.drop (i + 1)).map qP = [] := by rw [e2, List.drop_length]; rfl
      have hr2 := f2 hnil
      refine .inr ⟨e2, ?_⟩
      rw [if_pos hr2, if_pos hr2] at L2
      rw [hr2] at hlen
      simp only [List.length_nil, Nat.add_zero] at hlen
      have e3 : p + (qP L).length + 0 = x.length := by lsm_bools
      have L3 : Lx os' k d ki di pb fs x (p + (qP L).length + 0) .none (Str.ofString "") := L2
      rw [e3] at L3
      exact L3
  · lsm_bools
-- EX
theorem wp_call {W : Wd} {c : Cx} {st : St} {s : Shared} {ρ : List Addr} {f : Value} {as : List AV} {vs : List Value} {Q : AV → St → Prop} {R : Value → Shared → Prop} {E : Value → Shared → Prop} (h : CallV W c st f as Q) (r : Rp W c ρ st s) (hv : VRel ρ as vs)
    (k : ∀ ρ' b st' v s', Rp W c (ρ ++ ρ') st' s' → AV.rel (ρ ++ ρ') b v → Q b st' → R v s') : wpAny W.M c.A (call f vs) R E s :=
  wpAny_mono (h ρ s E vs r hv) (fun v s' ⟨ρ', b, st', a1, a2, a3⟩ => k ρ' b st' v s' a1 a2 a3) fun _ _ x => x
section
variable {w : World}
theorem fn_iter : findIn (WW w).K (.ref 852) "__iter__" = some (some (.ref 842)) := by (((try dsimp only [WW]); k_is))
theorem fn_next : findIn (WW w).K (.ref 852) "__next__" = some (some (.ref 849)) := by (((try dsimp only [WW]); k_is))
theorem fn_len : findIn (WW w).K (.ref 852) "__len__" = some none := by (((try dsimp only [WW]); k_is))
theorem fn_hint : findIn (WW w).K (.ref 852) "__length_hint__" = some none := by (((try dsimp only [WW]); k_is))
theorem is_iter : isFn (WW w).K (.ref 842) = true := by (((try dsimp only [WW]); k_is))
theorem is_next : isFn (WW w).K (.ref 849) = true := by (((try dsimp only [WW]); k_is))
theorem LxAt.hk {Ls x k d ki di pb fs i os} (L : LxAt Ls x k d ki di pb fs i os) : os[k]? = some (.inst 852 d) ∧ ∃ l, os[d]? = some (.dict l) := by
  rcases L with ⟨_, p, _, _, h4⟩ | ⟨_, h2⟩
  · exact ⟨h4.hk, _, h4.hd⟩
  · exact ⟨h2.hk, _, h2.hd⟩
/-- what holds between two tokens -/
inductive LJ (w : World) (c : Cx) (ρ : List Addr) (st : St) (S : Addr) (Ls : List (List Str)) (x : Str) (k d ki di pb fs : Nat) (n : Nat) (s : Shared) : Prop
  | mk (ρ' : List Addr) (i : Nat) (os' : List AO) (h1 : n + i = Ls.length) (h2 : Rp (WW w) c (ρ ++ ρ') ⟨st.m, os', st.gn⟩ s) (h3 : ExtD d di st.os os') (h4 : os'[st.os.length]? = some (.list ((Ls.take i).map fun L => AV.str (pathOf L)))) (h5 : LxAt Ls x k d ki di pb fs i os') (h6 : (ρ ++ ρ')[st.os.length]? = some S)
/-- list(lexer) -/
theorem list_lex {c : Cx} {ρ : List Addr} {st : St} {s : Shared} {outer : List Env} {k d ki di pb fs a : Nat} {x : Str} {Ls : List (List Str)} {R : Value → Shared → Prop} {E : Value → Shared → Prop}
    (hr : 9 ≤ c.room) (r : Rp (WW w) c ρ st s) (hf : c.frame = some c.L) (hfr : c.A.frames = some (c.env :: outer)) (hin : FramesIn c.g outer)
    (hL : ∀ L ∈ Ls, okN L ∧ 2 ≤ L.length) (hlen : Ls.length ≤ 100) (hz : x.length ≤ 10000) (hA : LxAt Ls x k d ki di pb fs 0 st.os) (ha : ρ[k]? = some a) (hd : d < st.os.length) (hdi : di < st.os.length)
    (h : ∀ ρ' os' sm h' L', Rp (WW w) c (ρ ++ ρ') ⟨st.m, os', st.gn⟩ sm → ExtD d di st.os os' → os'[st.os.length]? = some (.list (Ls.map fun L => AV.str (pathOf L))) → (ρ ++ ρ')[st.os.length]? = some s.heap.objs.size →
      FrUp (L' :: c.L :: outer.filterMap (·.frame)) sm.heap h' → L' ∉ ρ ++ ρ' → c.g.get? L' = none → R (.ref s.heap.objs.size) { sm with heap := h' }) :
    wpAny (WW w).M c.A (call (.type "list") [.ref a]) R E s := by
  refine callType_codes (Q₁ := fun obj s₁ => obj = .ref s.heap.objs.size ∧ s₁ = { s with heap := s.heap.push { cls := .type "list", data := .seq #[] } }) PySem.F.called_list (PySem.F.typeCall_list_1 _) PySem.F.entry_list_init
    (code_list_new _ ⟨rfl, rfl⟩) fun obj s₁ h₁ => ?_
  obtain ⟨rfl, rfl⟩ := h₁
  have hS : (s.heap.push { cls := .type "list", data := .seq #[] }).get? s.heap.objs.size = some { cls := .type "list", data := .seq #[] } := Heap.get?_push_size _ rfl
  refine ⟨⟨_, hS, rfl⟩, PySem.F.args_list_init_2 _ _, ?_⟩
  have hne : s.heap.objs.size ≠ a := Nat.ne_of_gt (r.lt (List.mem_of_getElem? ha))
  have r1 := ((r.inn (by lsm_bools)).inn (by show 1 ≤ c.room - 1; lsm_bools)).alloc (o := .list []) (ob := { cls := .type "list", data := .seq (#[] : Array Value) }) ⟨[], _, rfl, rfl⟩ rfl
  have hk : (ρ ++ [s.heap.objs.size])[st.os.length]? = some s.heap.objs.size := by rw [← r.objs.len]; simp
  have e0 : (st.os ++ [AO.list []]).set st.os.length (.list []) = st.os ++ [.list []] := by simp
  show wpAny _ c.A.in1.in1 (do let old ← Builtin.List.listItems (.ref s.heap.objs.size); Builtin.List.listUpdate (.ref s.heap.objs.size) (fun _ => #[]); letGo old.toList.reverse; Builtin.List.listExtendWith (.ref s.heap.objs.size) (.ref a) .none) _ _ _
  refine wpAny_bind ?_
  unfold Builtin.List.listItems
  refine wpAny_bind (wpAny_seqItems hS rfl (wpAny_pure ?_))
  show wpAny _ c.A.in1.in1 (updateSeq s.heap.objs.size (fun _ => #[]) >>= fun _ => letGo (#[] : Array Value).toList.reverse >>= fun _ => Builtin.List.listExtendWith (.ref s.heap.objs.size) (.ref a) .none) _ _ _
  refine wpAny_bind (wpAny_updateSeq hS rfl ?_)
  have hS₂ := Heap.get?_update_self (Obj.mapSeq (fun _ => (#[] : Array Value))) hS rfl
  refine wpAny_bind (wpAny_letGo ?_)
  have r2 := r1.change (n := s.toks) (o' := .list []) (k := st.os.length) hk (Heap.SameBut.update ..) hS₂ ⟨[], _, rfl, rfl⟩
  have r2' : Rp (WW w) c.inn.inn (ρ ++ [s.heap.objs.size]) { st with os := (st.os ++ [AO.list []]).set st.os.length (.list []) } _ := r2
  rw [e0] at r2'
  have hA1 : LxAt Ls x k d ki di pb fs 0 (st.os ++ [AO.list []]) := hA.ext (Ext.app _ _)
  obtain ⟨hk1, l1, hd1⟩ := hA1.hk
  obtain ⟨a', dx, es, n, e, e1, e2, e3, I, hes⟩ := r2'.inst hk1 hd1 ⟨a, idx_app ha, rfl⟩
  cases e
  obtain ⟨M, F, hLr⟩ := r2'.fr
  refine ext_with hne (by decide) (by decide) (fun h => I.type.here h) ?_
  refine owit_iter (L := c.inn.inn.L) F r2'.ok.X I fn_iter is_iter ?_
  refine wp_call (c := c.inn.inn) (spec_liter (k := k) (Q := fun a st' => a = .obj k ∧ st' = { st with os := st.os ++ [AO.list []] }) (by show 1 ≤ c.room - 1 - 1; lsm_bools) ⟨rfl, rfl⟩) r2' ⟨_, _, rfl, ⟨a, idx_app ha, rfl⟩, rfl⟩ ?_
  rintro ρ3 b3 st3 v3 s3 r3 hv3 ⟨rfl, rfl⟩
  obtain ⟨a3, q1, q2⟩ := hv3
  rw [List.append_assoc] at r3 q1
  rw [idx_app ha] at q1
  cases q1
  cases q2
  clear e1 e2 e3 hes hLr
  obtain ⟨a', dx, es, n, e, e1, e2, e3, I3, hes⟩ := r3.inst hk1 hd1 ⟨a, idx_app ha, rfl⟩
  cases e
  obtain ⟨M3, F3, hLr⟩ := r3.fr
  refine owit_it (L := c.inn.inn.L) F3 r3.ok.X I3 fn_next ?_
  have hk3 : (ρ ++ ([s.heap.objs.size] ++ ρ3))[st.os.length]? = some s.heap.objs.size := by rw [← List.append_assoc]; exact idx_app hk
  obtain ⟨S', vs, cc, e4, e5, hT, e6⟩ := r3.list (k := st.os.length) (l := []) (by simp) (v := .ref s.heap.objs.size) ⟨_, hk3, rfl⟩
  cases e4
  cases e6
  refine ⟨rfl, fun h => wpAny_bind (I3.type.here ((looks_findIn r3.X fn_len).here h)), fun h => wpAny_bind (I3.type.here ((looks_findIn r3.X fn_hint).here h)), cc, hT, plainId_quiet PySem.F.plain_extend_loop _, ?_⟩
  have hS₃ := Heap.get?_update_self (Obj.mapSeq (·.push Value.none)) hT rfl
  have hS₄ := Heap.get?_update_self (Obj.mapSeq (·.pop)) hS₃ rfl
  have r4 := r3.change (n := s3.toks) (o' := .list []) (k := st.os.length) hk3 ((Heap.SameBut.update (h := s3.heap) (a := s.heap.objs.size) (f := Obj.mapSeq (·.push Value.none))).trans (Heap.SameBut.update ..)) hS₄ ⟨[], _, rfl, rfl⟩
  have r4' : Rp (WW w) c.inn.inn (ρ ++ ([s.heap.objs.size] ++ ρ3)) { st with os := (st.os ++ [AO.list []]).set st.os.length (.list []) } _ := r4
  rw [e0] at r4'
  refine extend_raw (W := WW w) (A := c.A.in1) (S := s.heap.objs.size) (I := a) (res := .none) (LJ w c.inn.inn ρ st s.heap.objs.size Ls x k d ki di pb fs) ?_ Ls.length _ ⟨_, 0, _, rfl, r4', (ExtD.refl d di st.os).x (Ext.app _ _), by simp, hA1, hk3⟩
  clear hA hA1 hk1 hd1 hLr I I3 F F3 e1 e2 e3 hes r4 r4' hS₄ hS₃ hT r3 r2 r2' hS₂ r1
  intro n s5 hJ
  obtain ⟨ρ5, i, os5, hn, r5, hE5, hl5, hA5, hS5⟩ := hJ
  by_cases hi : i < Ls.length
  · obtain ⟨hk5, l5, hd5⟩ := hA5.hk
    obtain ⟨a', dx, es, n', e, e1, e2, e3, I5, hes⟩ := r5.inst hk5 hd5 ⟨a, idx_app ha, rfl⟩
    cases e
    obtain ⟨M5, F5, hLr⟩ := r5.fr
    refine owit_next (L := c.inn.inn.L) F5 r5.ok.X I5 fn_next is_next ?_
    have hget : Ls[i]? = some Ls[i] := List.getElem?_eq_getElem hi
    refine wp_call (c := c.inn.inn) (next_at (st := ⟨st.m, os5, st.gn⟩) (Q := fun a st' => a = .str (pathOf Ls[i]) ∧ ∃ os', st' = ⟨st.m, os', st.gn⟩ ∧ ExtD d di os5 os' ∧ LxAt Ls x k d ki di pb fs (i + 1) os') (by show 6 ≤ c.room - 1 - 1; lsm_bools) hL hz hA5 hget (fun os' hE' hA' => ⟨rfl, os', rfl, hE', hA'⟩)) r5 ⟨_, _, rfl, ⟨a, idx_app ha, rfl⟩, rfl⟩ ?_
    rintro ρ6 b6 st6 v6 s6 r6 hv6 ⟨rfl, os6, rfl, hE6, hA6⟩
    rw [List.append_assoc] at r6 hv6
    have hl6 := hE6 st.os.length _ (by lsm_bools) (by lsm_bools) hl5
    have hS6 : (ρ ++ (ρ5 ++ ρ6))[st.os.length]? = some s.heap.objs.size := by rw [← List.append_assoc]; exact idx_app hS5
    obtain ⟨S', vs, cc, e4, e5, hT, e6⟩ := r6.list (k := st.os.length) hl6 (v := .ref s.heap.objs.size) ⟨_, hS6, rfl⟩
    cases e4
    have hvl := e6.length
    rw [List.length_map, List.length_take] at hvl
    refine ⟨vs, cc, hT, by lsm_bools, n - 1, by lsm_bools, ρ5 ++ ρ6, i + 1, os6.set st.os.length (.list ((Ls.take i).map (fun L => AV.str (pathOf L)) ++ [.str (pathOf Ls[i])])), by lsm_bools, ?_, ?_, ?_, hA6.setL hl6, hS6⟩
    · obtain ⟨n', hn'⟩ : ∃ n', Obj.mapSeq (·.push v6) (PySem.W.listOf (List.toArray vs) cc) = PySem.W.listOf (List.toArray (vs ++ [v6])) n' := ⟨_, by rw [← List.push_toArray]; rfl⟩
      exact r6.change (o' := .list ((Ls.take i).map (fun L => AV.str (pathOf L)) ++ [.str (pathOf Ls[i])])) (n := s6.toks) hS6 (Heap.SameBut.update ..) (Heap.get?_update_self _ hT rfl) ⟨vs ++ [v6], n', hn', e6.append ⟨v6, [], rfl, hv6, rfl⟩⟩
    · intro j o hj1 hj2 hj3
      have h8 := (hE5.trans hE6) j o hj1 hj2 hj3
      have := (List.getElem?_eq_some_iff.mp hj3).1
      rw [List.getElem?_set_ne (by lsm_bools)]
      exact h8
    · rw [List.getElem?_set_self (List.getElem?_eq_some_iff.mp hl6).1, List.take_add_one, hget, List.map_append]
      rfl
  · have e7 : i = Ls.length := by lsm_bools
    subst e7
    rw [List.take_length] at hl5
    rcases hA5 with ⟨q, _⟩ | ⟨_, hLx⟩
    · exact absurd q hi
    · have hin5 : FramesIn s5.heap (c.env :: outer) := FramesIn.cons (c := c.inn.inn) r5 hf (hin.keeps r5.keep)
      refine wpAny_mono (end_next (E := E) (R := fun s' => R (.ref s.heap.objs.size) s') (c := c.inn.inn) (outer := c.env :: outer) (by show 6 ≤ c.room - 1 - 1; lsm_bools) r5 hfr hin5 ?_ hLx hz (idx_app ha) ?_) ?_ (fun e s' he => ?_)
      · intro b hb
        rw [List.filterMap_cons, show c.env.frame = some c.L from hf] at hb
        rcases List.mem_cons.mp hb with rfl | hb
        · exact fun q => (r5.fresh _ q).1 rfl
        · intro q
          obtain ⟨env, he, hfe⟩ := List.mem_filterMap.mp hb
          obtain ⟨_, L, o, g1, g2, _⟩ := hin env he
          rw [g1] at hfe
          cases hfe
          have := (r5.fresh _ q).2
          rw [show c.inn.inn.g = c.g from rfl, g2] at this
          cases this
      · intro ρ9 os9 sm h' L' r9 hE9 hup hn9 hg9
        rw [List.append_assoc] at r9 hn9
        rw [List.filterMap_cons, show c.env.frame = some c.L from hf] at hup
        have hl9 := hE9 st.os.length _ (by lsm_bools) (by lsm_bools) hl5
        exact h (ρ5 ++ ρ9) os9 sm h' L' ((r9.out (r.inn (by lsm_bools)).ok).out r.ok) (hE5.trans hE9) hl9 (by rw [← List.append_assoc]; exact idx_app hS5) hup hn9 hg9
      · rintro o s1 ⟨rfl, hq⟩
        exact ⟨rfl, hq⟩
      · exact he
end
-- EZ
/-- a lexer that split makes -/
structure SplL (os0 os : List AO) (k d ki di pb fs : Nat) (x : Str) (ws : Bool) (cm : Str) : Prop where
  ext : Ext os0 os
  ld : os0.length ≤ d
  ldi : os0.length ≤ di
  hk : os[k]? = some (.inst 852 d)
  hd : os[d]? = some (.dict (shxD ki pb fs ws cm (.str (Str.ofString " ")) (Str.ofString "")))
  hi : os[ki]? = some (.inst 717 di)
  hj : os[di]? = some (.dict (sioD x 0))
  hp : os[pb]? = some dqO
  hf : os[fs]? = some dqO
  ne : d ≠ di
theorem SplL.setD {os0 os os' : List AO} {k d ki di pb fs : Nat} {x : Str} {ws ws' : Bool} {cm cm' : Str} (L : SplL os0 os k d ki di pb fs x ws cm) (hE : ExtB d os os')
    (h : os'[d]? = some (.dict (shxD ki pb fs ws' cm' (.str (Str.ofString " ")) (Str.ofString "")))) : SplL os0 os' k d ki di pb fs x ws' cm' := by
  obtain ⟨h1, h2, h3, h4, h5, h6, h7, h8, h9, h10⟩ := L
  have n1 : k ≠ d := by intro e; subst e; rw [h4] at h5; cases h5
  have n2 : ki ≠ d := by intro e; subst e; rw [h6] at h5; cases h5
  have n3 : pb ≠ d := by intro e; subst e; rw [h8] at h5; simp [dqO] at h5
  have n4 : fs ≠ d := by intro e; subst e; rw [h9] at h5; simp [dqO] at h5
  exact ⟨h1.extB hE h2, h2, h3, hE _ _ n1 h4, h, hE _ _ n2 h6, hE _ _ (Ne.symm h10) h7, hE _ _ n3 h8, hE _ _ n4 h9, h10⟩
theorem SplL.lx {os0 os : List AO} {k d ki di pb fs : Nat} {x : Str} (L : SplL os0 os k d ki di pb fs x true (Str.ofString "")) : Lx os k d ki di pb fs x 0 (.str (Str.ofString " ")) (Str.ofString "") :=
  ⟨L.hk, L.hd, L.hi, L.hj, L.hp, L.hf, L.ne⟩
noncomputable abbrev spM (x : Str) : List (Str × AV) := [(Str.ofString "s", .str x), (Str.ofString "comments", .bool false), (Str.ofString "posix", .bool true)]
/-- split -/
theorem spec_split {w : World} {c : Cx} {st : St} {x : Str} {Ls : List (List Str)} {Q : AV → St → Prop} (hr : 12 ≤ c.room) (hf : c.frame = some c.L) (hfr : c.A.frames = some [c.env])
    (hL : ∀ L ∈ Ls, okN L ∧ 2 ≤ L.length) (hlen : Ls.length ≤ 100) (h0 : Ls ≠ []) (hx : x = Str.join (Str.ofString " ") (Ls.map quoteL)) (hz : x.length ≤ 10000)
    (h : ∀ os' j, Ext st.os os' → os'[j]? = some (.list (Ls.map fun L => AV.str (pathOf L))) → st.os.length ≤ j → Q (.obj j) { st with os := os' }) : CallV (WW w) c st (.ref 864) [.str x] Q := fun ρ s E vs r hv => by
  obtain ⟨v1, _, rfl, ⟨t, rfl⟩, rfl⟩ := hv
  refine' raw_call (m0 := spM x) r ?ho ?hcd (by lsm_bools) ?hb ?hm ?hloc ?c1 ?c2 ?c3 ?c4 ?_
  case ho => (((try dsimp only [WW]); k_is))
  case hcd => (((try dsimp only [WW]); k_is))
  case c1 => exact rfl
  case c2 => exact rfl
  case c3 => exact rfl
  case c4 => decide
  case hm => (simp only [List.map_cons, List.map_nil]; decide)
  case hloc => (simp only [List.map_cons, List.map_nil]; decide)
  case hb => exact ⟨_, binds_K r.X rfl (by (((try dsimp only [WW]); k_is))) rfl rfl rfl, ⟨_, _, rfl, ⟨t, rfl⟩, _, _, rfl, rfl, _, _, rfl, rfl, rfl⟩⟩
  intro c' s1 hs hcl hrm hA hf' hg ho r'
  refine wp_gen fun Q' E' hQ' _ => ?_
  refine wpAny_execs_cons (wp_on (rel := AF.rel) (Q := fun (fl : AF) (st1 : St) => fl = AF.next ∧ st1 = ⟨spM x, st.os, st.gn⟩) ?_ r' ?_)
  · repeat' (first | tb_start | with_reducible first | refine ex_cons ?_ | refine ex_If ?_)
    exact ⟨rfl, rfl⟩
  rintro ρ1 fl st1 v1 s2 r2 hfl ⟨rfl, rfl⟩
  cases hfl
  refine wpAny_execs_cons (wp_on (rel := AF.rel) (Q := fun (fl : AF) (st1 : St) => fl = AF.next ∧ ∃ os1 k d ki di pb fs, st1 = ⟨putM (Str.ofString "lex") (.obj k) (spM x), os1, st.gn⟩ ∧ SplL st.os os1 k d ki di pb fs x false (Str.ofString "#")) ?_ r2 ?_)
  · repeat' (first | tb_start | with_reducible first | refine ex_cons ?_ | refine ex_If ?_)
    refine ev_CallKw rfl ?_
    repeat' (first | tb_start | with_reducible first | refine ex_cons ?_ | refine ex_If ?_)
    refine call_make (by (((try dsimp only [WW]); k_is))) (by (((try dsimp only [WW]); k_is))) (by (((try dsimp only [WW]); k_is))) (by lsm_bools) fun kk => ?_
    refine spec_shx_init (by show 7 ≤ c'.room - 1; lsm_bools) (k := st.os.length + 1) (d := st.os.length) (by simp) (by simp) fun os2 ki di pb fs hE hdi hki h1 h2 h3 h4 h5 => ⟨rfl, ?_⟩
    repeat' (first | tb_start | with_reducible first | refine ex_cons ?_ | refine ex_If ?_)
    have hl : (st.os ++ [AO.dict []] ++ [AO.inst 852 st.os.length]).length = st.os.length + 2 := by simp
    rw [hl] at hdi hki
    exact ⟨rfl, os2, _, st.os.length, ki, di, pb, fs, rfl, ((Ext.app _ _).snoc).extB hE (Nat.le_refl _), Nat.le_refl _, by lsm_bools, hE (st.os.length + 1) _ (by lsm_bools) (by simp), h5, h1, h2, h3, h4, by lsm_bools⟩
  rintro ρ2 fl st1 v1 s3 r3 hfl ⟨rfl, os1, k, d, ki, di, pb, fs, rfl, hS⟩
  cases hfl
  rw [List.append_assoc] at r3
  generalize ρ1 ++ ρ2 = ρ2 at r3
  refine wpAny_execs_cons (wp_on (rel := AF.rel) (Q := fun (fl : AF) (st1 : St) => fl = AF.next ∧ ∃ os2, st1 = ⟨putM (Str.ofString "lex") (.obj k) (spM x), os2, st.gn⟩ ∧ SplL st.os os2 k d ki di pb fs x true (Str.ofString "#")) ?_ r3 ?_)
  · have hk1 := hS.hk
    have hd1 := hS.hd
    repeat' (first | tb_start | with_reducible first | refine ex_cons ?_ | refine ex_If ?_)
    intro os2 hk2 hd2 he2
    exact ⟨rfl, os2, rfl, hS.setD he2 (Eq.mp (by kernel_rfl) hd2)⟩
  rintro ρ3 fl st1 v1 s4 r4 hfl ⟨rfl, os2, rfl, hS2⟩
  cases hfl
  rw [List.append_assoc] at r4
  generalize ρ2 ++ ρ3 = ρ3 at r4
  refine wpAny_execs_cons (wp_on (rel := AF.rel) (Q := fun (fl : AF) (st1 : St) => fl = AF.next ∧ ∃ os3, st1 = ⟨putM (Str.ofString "lex") (.obj k) (spM x), os3, st.gn⟩ ∧ SplL st.os os3 k d ki di pb fs x true (Str.ofString "")) ?_ r4 ?_)
  · have hk1 := hS2.hk
    have hd1 := hS2.hd
    repeat' (first | tb_start | with_reducible first | refine ex_cons ?_ | refine ex_If ?_)
    intro os3 hk3 hd3 he3
    repeat' (first | tb_start | with_reducible first | refine ex_cons ?_ | refine ex_If ?_)
    exact ⟨rfl, os3, rfl, hS2.setD he3 (Eq.mp (by kernel_rfl) hd3)⟩
  rintro ρ4 fl st1 v1 s5 r5 hfl ⟨rfl, os3, rfl, hS3⟩
  cases hfl
  rw [List.append_assoc] at r5
  generalize ρ3 ++ ρ4 = ρ4 at r5
  clear hS hS2 r3 r4 r2
  refine wpAny_execs_cons (wpAny_Return_some ?_)
  refine wpAny_Call_ofName (wp_on (rel := VR) (Q := fun a st' => a = .fix (.type "list") ∧ st' = ⟨putM (Str.ofString "lex") (.obj k) (spM x), os3, st.gn⟩) ?_ r5 ?_)
  · repeat' (first | tb_start | with_reducible first | refine ex_cons ?_ | refine ex_If ?_)
    exact ⟨rfl, rfl⟩
  rintro ρ5 fa st1 v1 s6 r6 hv1 ⟨rfl, rfl⟩
  cases (show v1 = .type "list" from hv1)
  rw [List.append_assoc] at r6
  generalize ρ4 ++ ρ5 = ρ5 at r6
  refine callWith_of (P := (WW w).K.In) (keywords := []) rfl keep_T (wp_evalArgs rfl (wp_on (rel := VRel) (Q := fun as st' => as = [.obj k] ∧ st' = ⟨putM (Str.ofString "lex") (.obj k) (spM x), os3, st.gn⟩) ?_ r6 ?_))
  · repeat' (first | tb_start | with_reducible first | refine ex_cons ?_ | refine ex_If ?_)
    exact ⟨rfl, rfl⟩
  rintro ρ6 as st1 vs1 s7 r7 hvs ⟨rfl, rfl⟩
  rw [List.append_assoc] at r7 hvs
  generalize ρ5 ++ ρ6 = ρ6 at r7 hvs
  refine ⟨r7.X, ?_⟩
  obtain ⟨v2, _, rfl, ⟨a, ha, rfl⟩, rfl⟩ := hvs
  have hlx : LxAt Ls x k d ki di pb fs 0 os3 := by
    refine .inl ⟨List.length_pos_iff.mpr h0, 0, Nat.zero_le _, ?_, hS3.lx⟩
    rw [List.drop_zero, List.drop_zero, hx, join_line, List.map_map]
    rfl
  have hfi : FramesIn s.heap [c.env] := FramesIn.cons r hf fun env he => nomatch he
  have hfi' : FramesIn c'.g [c.env] := by
    rw [hg]
    refine hfi.hide fun b hb => ?_
    rw [List.filterMap_cons, show c.env.frame = some c.L from hf] at hb
    rcases List.mem_cons.mp hb with rfl | hb
    · exact r.notin
    · cases hb
  refine list_lex (outer := [c.env]) (by lsm_bools) r7 hf' (by rw [hA]; exact Around.frames_deeper hfr) hfi' hL hlen hz hlx ha (List.getElem?_eq_some_iff.mp hS3.hd).1 (List.getElem?_eq_some_iff.mp hS3.hj).1 ?_
  intro ρ7 os4 sm h' L' r8 hE hlist hidx hup hn hgn
  rw [List.append_assoc] at r8 hidx hn
  have rl := r.leave r8 hg ho
  have hsub : ∀ b, c'.g.get? b = none → c.g.get? b = none := fun b hb => by
    cases hq : c.g.get? b with
    | none => rfl
    | some o =>
      have := r.keepH _ _ hq
      rw [← hg, hb] at this
      cases this
  have above : ∀ {c : Cx} {ρ st s}, Rp (WW w) c ρ st s → c.g.get? c.L = none := fun {c ρ st s} r => by
    cases hq : c.g.get? c.L with
    | none => rfl
    | some o => exact absurd (Heap.lt_size hq) (Nat.not_lt.mpr r.above)
  rw [List.filterMap_cons, show c.env.frame = some c.L from hf] at hup
  have rs := rl.slots hup (fun b hb => ?_) (fun b hb => ?_)
  · refine hQ' _ _ ?_
    refine ⟨_, .obj os3.length, _, rs, ⟨_, hidx, rfl⟩, ?_⟩
    refine h os4 os3.length ?_ hlist hS3.ext.len
    intro j o hj
    have := (List.getElem?_eq_some_iff.mp hj).1
    exact hE j o (by have := hS3.ld; lsm_bools) (by have := hS3.ldi; lsm_bools) (hS3.ext j o hj)
  · rcases List.mem_cons.mp hb with rfl | hb
    · exact hn
    · rcases List.mem_cons.mp hb with rfl | hb
      · exact r8.notin
      · rcases List.mem_cons.mp hb with rfl | hb
        · exact rl.notin
        · cases hb
  · rcases List.mem_cons.mp hb with rfl | hb
    · exact hsub _ hgn
    · rcases List.mem_cons.mp hb with rfl | hb
      · exact hsub _ (above r8)
      · rcases List.mem_cons.mp hb with rfl | hb
        · exact above r
        · cases hb
-- LA
section
variable {W : Wd} {c : Cx} {st : St}
theorem vrel_ints {ρ : List Addr} : ∀ {vs : List Value} {xs : List Int}, IntsAre vs xs → VRel ρ (xs.map AV.int) vs
  | _, _, .nil => rfl
  | _, _, .cons n t h => ⟨_, _, rfl, ⟨t, rfl⟩, vrel_ints h⟩
/-- the first items of a list that the caller gave -/
theorem sl_fix {a : Addr} {vs : List Value} {l : List AV} {n : Nat} {Q : AV → St → Prop} (hL : c.g.IsList a vs.toArray) (hI : ∀ ρ, VRel ρ l vs) (hz : l.length ≤ 100000)
    (h : Q (.obj st.os.length) { st with os := st.os ++ [.list (l.take n)] }) : SliceR W c st "list" (.fix (.ref a)) .none (.int n) Q := fun ρ s E v vl vu b r hv hvl hvu hb => by
  obtain ⟨t, hvu⟩ := hvu
  cases (show vl = .none from hvl)
  cases (show v = .ref a from hv)
  subst hvu
  have hlen := (hI ρ).length
  have hL' : s.heap.IsList a vs.toArray := let ⟨o, e, q⟩ := hL; ⟨o, r.keep _ _ e, q⟩
  refine ⟨hL'.typeIs, wpAny_getItem_list_slice hL' ⟨_, hb, rfl, rfl⟩ .none (.int n t) .none (by simp) ?_ (by simp only [List.size_toArray]; unfold sizeLine; lsm_bools)⟩
  rw [slicePick_upto']
  exact Post.new r (o := .list (l.take n)) ⟨vs.take n, 0, by simp [PySem.W.listOf], (hI ρ).take n⟩ rfl h
end
theorem top_ghost {tabs : List (Addr × Addr)} {mg mb : Str → Option Value} {h₁ : Heap} (hT : TabsAt tabs h₁) (T : TopR mg mb h₁) : TopR mg mb (ghostOf h₁ tabs) :=
  ⟨ghost_ns hT T.g, ghost_ns hT T.b, let ⟨mc, a, r⟩ := T.nolimit; ⟨mc, ghost_ns hT a, r⟩, T.builtins⟩
/-- the law's own activation -/
noncomputable def lawCx (A : Around) (s₁ : Shared) (L : Addr) (scope : Scope) (qual : Str) (func : Option Addr) (code : Value) : Cx :=
  { A := A, g := ghostOf s₁.heap [(870, 866)], room := 20, L := L, scope := scope, cells := [], qual := qual, func := func, code := code, frame := some L, cl := [], os0 := (s₁.os, s₁.drawn) }
theorem law_rp {W : Wd} {A : Around} {s₁ : Shared} {L : Addr} {scope : Scope} {qual : Str} {func : Option Addr} {code : Value} {h₁ : Heap} {mg mb m : Str → Option Value} {a : Addr} {n : Nat}
    (X : W.K.In s₁.heap) (hK : noTabs W.K = true) (T : TopR mg mb s₁.heap) (hC : CodeHd s₁.heap 870 866 ∧ s₁.heap.get? 866 = some (tabObj #[])) (F : Fr s₁.heap L h₁ m) (hm : m (Str.ofString "script") = some (.ref a)) (hg : s₁.gens = #[])
    (hk : scope.kind = .function) (hd : A.depth + 20 < recursionLimit) (hu : A.units + 20 * 20 + 100 < cLine) (hh : A.handled = none) :
    Rp W (lawCx A s₁ L scope qual func code) [866] ⟨[(Str.ofString "script", .fix (.ref a))], [tabO 0 866 #[]], #[]⟩ { s₁ with heap := h₁, toks := n } := by
  have hT : TabsAt [(870, 866)] s₁.heap := List.forall_mem_cons.mpr ⟨hC, fun _ h => nomatch h⟩
  have F' := ghost_fr hT F
  refine ⟨⟨ghost_K hT X hK, ⟨mg, mb, top_ghost hT T⟩, hk, hd, hu, hh⟩, ⟨m, F'.ns, fun x a' e => ?_⟩, F'.keep, F'.above, ⟨rfl, fun k o e => ?_⟩, fun b hb => ?_, by simp, fun x k e => (by cases e), hg, rfl⟩
  · rw [List.lookup_cons] at e
    cases hx : x == Str.ofString "script" with
    | true => rw [hx] at e; cases e; rw [eq_of_beq hx]; exact ⟨_, hm, rfl⟩
    | false => rw [hx] at e; cases e
  · match k, e with
    | 0, e => cases e; exact ⟨866, tabObj #[], rfl, F.keep _ _ hC.2, rfl, rfl⟩
    | k + 1, e => simp at e
  · rw [List.mem_singleton] at hb
    subst hb
    exact ⟨Nat.ne_of_lt (Nat.lt_of_lt_of_le (Heap.lt_size hC.2) F.above), hideAll_none _ (List.mem_singleton.mpr rfl)⟩
/-- at the end -/
theorem law_old {W : Wd} {A : Around} {s₁ s' : Shared} {L : Addr} {scope : Scope} {qual : Str} {func : Option Addr} {code : Value} {ρ' : List Addr} {st : St} {ps : Array Value} (hC : CodeHd s₁.heap 870 866 ∧ s₁.heap.get? 866 = some (tabObj #[]))
    (r : Rp W (lawCx A s₁ L scope qual func code) ([866] ++ ρ') st s') (h0 : st.os[0]? = some (tabO 0 866 ps)) : OldK s₁.heap s'.heap ∧ s'.os = s₁.os := by
  have hP : s'.heap.get? 866 = some (tabObj ps) := by
    obtain ⟨a, ob, e1, e2, e3⟩ := r.objs.at_ 0 _ h0
    cases e1
    rw [e2, show ob = tabObj ps from e3.2]
  have keep : ∀ b o, b ≠ 866 → s₁.heap.get? b = some o → s'.heap.get? b = some o := fun b o hb e => r.keep b o (ghost_ne e fun q => hb (List.mem_singleton.mp q))
  refine ⟨⟨fun b o e => ?_, fun b o e => ?_⟩, congrArg Prod.fst r.os⟩
  · by_cases hb : b = 866
    · subst hb
      have e2 := hC.2
      rw [e] at e2
      cases e2
      exact .inr (.inl ⟨(hC.1.tab hC.2).isCodeTable, rfl, #[], ps, rfl, by rw [Array.empty_append]; exact hP⟩)
    · exact .inl (keep b o hb e)
  · by_cases hb : b = 866
    · subst hb; exact ⟨_, hP⟩
    · exact ⟨o, keep b o hb e⟩
/-- the law's call, by its walk -/
theorem law_go {W : Wd} {A : Around} {s₁ : Shared} {L fa : Addr} {scope : Scope} {qual : Str} {code : Value} {h₁ : Heap} {mg mb m : Str → Option Value} {a : Addr} {n : Nat} {env : Env} {body : List Stmt} {R : Flow → Shared → Prop} {E : Value → Shared → Prop}
    (X : W.K.In s₁.heap) (hK : noTabs W.K = true) (T : TopR mg mb s₁.heap) (hC : CodeHd s₁.heap 870 866 ∧ s₁.heap.get? 866 = some (tabObj #[])) (F : Fr s₁.heap L h₁ m) (hm : m (Str.ofString "script") = some (.ref a)) (hg : s₁.gens = #[])
    (hk : scope.kind = .function) (hd : A.depth + 20 < recursionLimit) (hu : A.units + 20 * 20 + 100 < cLine) (hh : A.handled = none) (hfr : A.frames = some [env]) (he : env = (lawCx A s₁ L scope qual (some fa) code).env)
    (core : ∀ c : Cx, c.scope = scope → c.frame = some c.L → c.A.frames = some [c.env] → c.room = 20 → c.cl = [] → c.g = ghostOf s₁.heap [(870, 866)] → Ex W c ⟨[(Str.ofString "script", .fix (.ref a))], [tabO 0 866 #[]], #[]⟩ (execs body c.env)
      (fun fl st' => fl = .ret (.bool true) ∧ (∃ ps, st'.os[0]? = some (tabO 0 866 ps)) ∧ ∀ x ∈ st'.gn, x.bare = true))
    (fin : ∀ s', OldK s₁.heap s'.heap → s'.os = s₁.os → AllBare s'.gens → R (.ret (.bool true)) s') : wpAny W.M A (execs body env) R E { s₁ with heap := h₁, toks := n } := by
  have r := law_rp (A := A) (scope := scope) (qual := qual) (func := some fa) (code := code) (n := n) X hK T hC F hm hg hk hd hu hh
  subst he
  refine wp_on (c := lawCx A s₁ L scope qual (some fa) code) (core _ rfl rfl hfr rfl rfl rfl) r ?_
  rintro ρ' fl st' v s' r' hv ⟨rfl, ⟨ps, h0⟩, hb⟩
  obtain ⟨u, rfl, hu⟩ := hv
  cases (show u = .bool true from hu)
  obtain ⟨k1, k2⟩ := law_old hC r' h0
  exact fin s' k1 k2 (fun y hy => hb y (by rw [← r'.gens]; exact hy))
theorem ghost_bm {s₁ : Shared} {mg : Str → Option Value} {bo : Obj} (hC : CodeHd s₁.heap 870 866 ∧ s₁.heap.get? 866 = some (tabObj #[])) (M : BMod s₁.heap mainGlobals mg 4 bo) : (ghostOf s₁.heap [(870, 866)]).get? 4 = some bo ∧ bo.cls = .type "module" ∧ bo.dict = some builtinsNs ∧ bo.data = .plain :=
  ⟨ghost_ne M.obj (by decide), M.cls, M.dict, M.data⟩
-- LW
theorem no_tabs {w : World} : noTabs (WW w).K = true := by kernel_rfl
/-- the law's lists of names -/
noncomputable def lawL (xs : List Int) : List (List Str) := ([13, 61, 24] ++ xs.take 5).map namesNum
theorem lawL_places (xs : List Int) : ([13, 61, 24] ++ xs.take 5 : List Int).map placeNum = (lawL xs).map pathOf := by
  unfold lawL
  rw [List.map_map]
  exact List.map_congr_left fun x _ => placeNum_path x
theorem lawL_ok {xs : List Int} : ∀ L ∈ lawL xs, okN L ∧ 2 ≤ L.length := fun L hL => by
  obtain ⟨x, _, rfl⟩ := List.mem_map.mp hL
  exact ⟨okN_num x, namesNum_len x⟩
theorem lawL_len (xs : List Int) : (lawL xs).length ≤ 8 := by
  unfold lawL
  rw [List.length_map, List.length_append, List.length_take]
  simp only [List.length_cons, List.length_nil]
  lsm_bools
theorem lawL_ne (xs : List Int) : lawL xs ≠ [] := by
  unfold lawL
  simp
theorem lawL_names (xs : List Int) : ((lawL xs).map pathOf).map namesOf = lawL xs := by
  rw [List.map_map]
  conv => rhs; rw [← List.map_id (lawL xs)]
  exact List.map_congr_left fun L hL => names_path (lawL_ok L hL).1
theorem line_len {Ls : List (List Str)} (h : ∀ L ∈ Ls, okN L ∧ 2 ≤ L.length) (hz : Ls.length ≤ 8) : (Str.join (Str.ofString " ") (Ls.map quoteL)).length ≤ 10000 := by
  have h1 := PySem.StrLaws.join_length_le (Str.ofString " ") (Ls.map quoteL)
  have hlen : ((Ls.map quoteL).map (·.length)).sum ≤ (Ls.map quoteL).length * 130 := PySem.StrLaws.sumLen_le _ fun y hy => by
    obtain ⟨L, hL1, rfl⟩ := List.mem_map.mp hy
    exact (lex_ok (h L hL1).1 (h L hL1).2).len
  have e1 : (Str.ofString " ").length = 1 := rfl
  rw [e1] at h1
  rw [List.length_map] at h1 hlen
  lsm_bools
noncomputable def cw.tw15570454731259054930 : Unit := ()
noncomputable def cw.tw12489783644897223078 : Unit := ()
noncomputable def cw.tw6777994540889236563 : Unit := ()
noncomputable def cw.tw11337513309407294251 : Unit := ()
noncomputable def cw.tw18317233047231194982 : Unit := ()
noncomputable def cw.tw10640816494570090282 : Unit := ()
noncomputable def cw.tw15905640710592828121 : Unit := ()
noncomputable def cw.tw9122601410144511000 : Unit := ()
noncomputable def cw.tw16935115531500542280 : Unit := ()
noncomputable def cw.tw4552068037823324109 : Unit := ()
noncomputable def cw.tw8997325402272200545 : Unit := ()
noncomputable def cw.tw10362361567543475196 : Unit := ()
noncomputable def cw.tw6239651752356071617 : Unit := ()
noncomputable def cw.tw16809669485445066178 : Unit := ()
noncomputable def cw.tw2130900402888968524 : Unit := ()
noncomputable def cw.tw7488786868820366778 : Unit := ()
noncomputable def cw.tw4479457894385850050 : Unit := ()
noncomputable def cw.tw16168696300651820781 : Unit := ()
noncomputable def cw.tw4913375265903614572 : Unit := ()
noncomputable def cw.tw14761716191902511869 : Unit := ()
noncomputable def cw.tw8681520704858018953 : Unit := ()
noncomputable def cw.tw15469853454557532080 : Unit := ()
noncomputable def cw.tw2582236779478434216 : Unit := ()
noncomputable def cw.tw1407480789537242873 : Unit := ()
noncomputable def cw.tw64915050140990794 : Unit := ()
noncomputable def cw.tw11746908453752767014 : Unit := ()
noncomputable def cw.tw12226890797950352311 : Unit := ()
noncomputable def cw.tw1638674023765915474 : Unit := ()
noncomputable def cw.tw8415975840473770697 : Unit := ()
noncomputable def cw.tw6991156322589594258 : Unit := ()
noncomputable def cw.tw9120554525716621055 : Unit := ()
noncomputable def cw.tw3972340745722260351 : Unit := ()
noncomputable def cw.tw2309052794305952915 : Unit := ()
noncomputable def cw.tw10420176465449760270 : Unit := ()
noncomputable def cw.tw5924188575970454254 : Unit := ()
noncomputable def cw.tw10257401847227364162 : Unit := ()
noncomputable def cw.tw6982944227160431 : Unit := ()
noncomputable def cw.tw11071732915493927612 : Unit := ()
noncomputable def cw.tw14583623744940816826 : Unit := ()
noncomputable def cw.tw12256151059813645121 : Unit := ()
noncomputable def cw.tw4679047125852639892 : Unit := ()
noncomputable def cw.tw3396020057069434050 : Unit := ()
noncomputable def cw.tw18424564655652043411 : Unit := ()
noncomputable def cw.tw8369555480804051989 : Unit := ()
noncomputable def cw.tw7287727971796690800 : Unit := ()
noncomputable def cw.tw11781060877705872058 : Unit := ()
noncomputable def cw.tw8536786715393496132 : Unit := ()
noncomputable def cw.tw4594457182599078764 : Unit := ()
noncomputable def cw.tw3319371217981442370 : Unit := ()
noncomputable def cw.tw14288744206005611414 : Unit := ()
noncomputable def cw.tw701566489109174311 : Unit := ()
noncomputable def cw.tw12533130472308281958 : Unit := ()
noncomputable def cw.tw14590429949647131082 : Unit := ()
noncomputable def cw.tw4166626267767229215 : Unit := ()
noncomputable def cw.tw13848170296369581231 : Unit := ()
noncomputable def cw.tw18292260345888492061 : Unit := ()
noncomputable def cw.tw17402413601860119781 : Unit := ()
noncomputable def cw.tw4500777954724226787 : Unit := ()
noncomputable def cw.tw16848788696280777126 : Unit := ()
noncomputable def cw.tw6113719702558589905 : Unit := ()
noncomputable def cw.tw17850668246006878911 : Unit := ()
noncomputable def cw.tw14438426639572044279 : Unit := ()
noncomputable def cw.tw18113133813953604959 : Unit := ()
noncomputable def cw.tw4652533487383075113 : Unit := ()
noncomputable def cw.tw13982341140010213191 : Unit := ()
noncomputable def cw.tw3304036120779330996 : Unit := ()
noncomputable def cw.tw6781855498832571557 : Unit := ()
noncomputable def cw.tw14249023299064298872 : Unit := ()
noncomputable def cw.tw903198319781595634 : Unit := ()
noncomputable def cw.tw7633380312702834356 : Unit := ()
noncomputable def cw.tw7674018889070341683 : Unit := ()
noncomputable def cw.tw14991488966729834569 : Unit := ()
noncomputable def cw.tw13501799681924028450 : Unit := ()
noncomputable def cw.tw4474437879914979309 : Unit := ()
noncomputable def cw.tw7089592570360907263 : Unit := ()
noncomputable def cw.tw12743171296989180610 : Unit := ()
noncomputable def cw.tw6547310403520811618 : Unit := ()
noncomputable def cw.tw9680639695262415995 : Unit := ()
noncomputable def cw.tw16966850244799370580 : Unit := ()
noncomputable def cw.tw805133908347652326 : Unit := ()
noncomputable def cw.tw6871870463070962967 : Unit := ()
noncomputable def cw.tw8428763959616027089 : Unit := ()
noncomputable def cw.tw2041038859986201105 : Unit := ()
noncomputable def cw.tw8671407627890675162 : Unit := ()
noncomputable def cw.tw16880979030118593267 : Unit := ()
noncomputable def cw.tw6502780884102395211 : Unit := ()
noncomputable def cw.tw18136070617529289488 : Unit := ()
noncomputable def cw.tw10135775141145359465 : Unit := ()
noncomputable def cw.tw7418429272371245016 : Unit := ()
noncomputable def cw.tw11907217420384322902 : Unit := ()
noncomputable def cw.tw18193557824911302488 : Unit := ()
noncomputable def cw.tw2825866184106970717 : Unit := ()
noncomputable def cw.tw5572671118190824779 : Unit := ()
noncomputable def cw.tw14719815322784957477 : Unit := ()
noncomputable def cw.tw7021196676479962670 : Unit := ()
noncomputable def cw.tw10248210472991631576 : Unit := ()
noncomputable def cw.tw14280105962871662295 : Unit := ()
noncomputable def cw.tw5497027789281436966 : Unit := ()
noncomputable def cw.tw17037806672598591638 : Unit := ()
noncomputable def cw.tw8116201982465720238 : Unit := ()
noncomputable def cw.tw15759073248670287780 : Unit := ()
noncomputable def cw.tw16205799052464293466 : Unit := ()
noncomputable def cw.tw18029111101760993870 : Unit := ()
noncomputable def cw.tw7354577698782505483 : Unit := ()
noncomputable def cw.tw3055976588245971186 : Unit := ()
noncomputable def cw.tw8440572659557939377 : Unit := ()
noncomputable def cw.tw12474933908789363324 : Unit := ()
noncomputable def cw.tw7876835220720260551 : Unit := ()
noncomputable def cw.tw9468044242007967469 : Unit := ()
noncomputable def cw.tw4913628044325496025 : Unit := ()
noncomputable def cw.tw12046568144451437175 : Unit := ()
noncomputable def cw.tw11086726015705556555 : Unit := ()
noncomputable def cw.tw9170486784788658688 : Unit := ()
noncomputable def cw.tw1755542550043314460 : Unit := ()
noncomputable def cw.tw8890816858781102432 : Unit := ()
noncomputable def cw.tw10062538012251850071 : Unit := ()
noncomputable def cw.tw14200389297463377969 : Unit := ()
noncomputable def cw.tw5975198326110587854 : Unit := ()
noncomputable def cw.tw16014713639808609178 : Unit := ()
noncomputable def cw.tw5550931038753635004 : Unit := ()
noncomputable def cw.tw5487306389868513908 : Unit := ()
noncomputable def cw.tw4319754535968967086 : Unit := ()
noncomputable def cw.tw12827193033740727419 : Unit := ()
noncomputable def cw.tw6171756555549234660 : Unit := ()
noncomputable def cw.tw3779545472530704611 : Unit := ()
noncomputable def cw.tw7962709423176429090 : Unit := ()
noncomputable def cw.tw17729162322777953753 : Unit := ()
noncomputable def cw.tw1281953741650414767 : Unit := ()
noncomputable def cw.tw17526776900075017712 : Unit := ()
noncomputable def cw.tw14593564917385628650 : Unit := ()
noncomputable def cw.tw1106642703934438830 : Unit := ()
noncomputable def cw.tw11585968440157721218 : Unit := ()
noncomputable def cw.tw10081955912049257671 : Unit := ()
noncomputable def cw.tw8098236951196339772 : Unit := ()
noncomputable def cw.tw4703341579506851451 : Unit := ()
noncomputable def cw.tw14255671406697997116 : Unit := ()
noncomputable def cw.tw8098402475368697700 : Unit := ()
noncomputable def cw.tw4958740361536048448 : Unit := ()
noncomputable def cw.tw5843511999551100372 : Unit := ()
noncomputable def cw.tw540817070640439332 : Unit := ()
noncomputable def cw.tw3572656574062369184 : Unit := ()
noncomputable def cw.tw5941774763026449977 : Unit := ()
noncomputable def cw.tw11630197972276183901 : Unit := ()
noncomputable def cw.tw3868282526099714345 : Unit := ()
noncomputable def cw.tw2951260563612320325 : Unit := ()
noncomputable def cw.tw11961237888325340695 : Unit := ()
noncomputable def cw.tw14176645034537576387 : Unit := ()
noncomputable def cw.tw4745555834983666509 : Unit := ()
noncomputable def cw.tw13442955401182535771 : Unit := ()
noncomputable def cw.tw6733741623040964161 : Unit := ()
noncomputable def cw.tw6625854827542380767 : Unit := ()
noncomputable def cw.tw6565294887129739502 : Unit := ()
noncomputable def cw.tw10855334562490489437 : Unit := ()
noncomputable def cw.tw14803839441390933325 : Unit := ()
noncomputable def cw.tw9341983947928411694 : Unit := ()
noncomputable def cw.tw12239477600099815877 : Unit := ()
noncomputable def cw.tw4743089586618979064 : Unit := ()
noncomputable def cw.tw5036700988731498862 : Unit := ()
noncomputable def cw.tw3358073120794002988 : Unit := ()
noncomputable def cw.tw15774067651256261318 : Unit := ()
noncomputable def cw.tw9174292313716971547 : Unit := ()
noncomputable def cw.tw10469622635208884771 : Unit := ()
noncomputable def cw.tw11783974573064250014 : Unit := ()
noncomputable def cw.tw2006664567204311602 : Unit := ()
noncomputable def cw.tw4275957567126742225 : Unit := ()
noncomputable def cw.tw10111585515160911110 : Unit := ()
noncomputable def cw.tw7069858871986738619 : Unit := ()
noncomputable def cw.tw13627031565136007409 : Unit := ()
noncomputable def cw.tw5161895148761602514 : Unit := ()
noncomputable def cw.tw4957050934706785551 : Unit := ()
noncomputable def cw.tw5530794078816867800 : Unit := ()
noncomputable def cw.tw6552917977022550590 : Unit := ()
noncomputable def cw.tw5824335537622360646 : Unit := ()
noncomputable def cw.tw12656509176122445110 : Unit := ()
noncomputable def cw.tw8839621922277447861 : Unit := ()
noncomputable def cw.tw17003003066774387978 : Unit := ()
noncomputable def cw.tw391325401321064460 : Unit := ()
noncomputable def cw.tw10141683463238506719 : Unit := ()
noncomputable def cw.tw18345840644815652343 : Unit := ()
noncomputable def cw.tw1600781772374072883 : Unit := ()
noncomputable def cw.tw3651845927883593852 : Unit := ()
noncomputable def cw.tw15310693723305747411 : Unit := ()
noncomputable def cw.tw15412016074611381620 : Unit := ()
noncomputable def cw.tw654914255534609300 : Unit := ()
noncomputable def cw.tw12219693787094527316 : Unit := ()
noncomputable def cw.tw6037621541623016170 : Unit := ()
noncomputable def cw.tw12010998178500294339 : Unit := ()
noncomputable def cw.tw10450898809476620826 : Unit := ()
noncomputable def cw.tw16542500904821523501 : Unit := ()
noncomputable def cw.tw5356817405307083873 : Unit := ()
noncomputable def cw.tw7520782095223799989 : Unit := ()
noncomputable def cw.tw11491379836563631698 : Unit := ()
noncomputable def cw.tw8081542736071443135 : Unit := ()
noncomputable def cw.tw11744499077472433453 : Unit := ()
noncomputable def cw.tw4615577321663172228 : Unit := ()
noncomputable def cw.tw9810862708771535086 : Unit := ()
noncomputable def cw.tw11057580216289996019 : Unit := ()
noncomputable def cw.tw17829679978796797323 : Unit := ()
noncomputable def cw.tw17010640132346687298 : Unit := ()
noncomputable def cw.tw15077183569406575447 : Unit := ()
noncomputable def cw.tw7417615246134051412 : Unit := ()
noncomputable def cw.tw16110562868532295091 : Unit := ()
noncomputable def cw.tw16524248288006882283 : Unit := ()
noncomputable def cw.tw6268324778620274351 : Unit := ()
noncomputable def cw.tw3890490791861433327 : Unit := ()
noncomputable def cw.tw4009371830608400768 : Unit := ()
noncomputable def cw.tw7624667896888895149 : Unit := ()
noncomputable def cw.tw648951039853280990 : Unit := ()
noncomputable def cw.tw11057115929176492489 : Unit := ()
noncomputable def cw.tw7138865461323901148 : Unit := ()
noncomputable def cw.tw5632176861402174753 : Unit := ()
noncomputable def cw.tw15255245019290934669 : Unit := ()
noncomputable def cw.tw1054814797032604294 : Unit := ()
noncomputable def cw.tw10666049679076413966 : Unit := ()
noncomputable def cw.tw3567684831946770877 : Unit := ()
noncomputable def cw.tw2987561410272189132 : Unit := ()
noncomputable def cw.tw3050485629901723413 : Unit := ()
noncomputable def cw.tw3449159686148825395 : Unit := ()
noncomputable def cw.tw4486984800207835088 : Unit := ()
noncomputable def cw.tw8383724130396994501 : Unit := ()
noncomputable def cw.tw13244139714962705369 : Unit := ()
noncomputable def cw.tw3829546311948938476 : Unit := ()
noncomputable def cw.tw1295104794031784457 : Unit := ()
noncomputable def cw.tw11423509047475690751 : Unit := ()
noncomputable def cw.tw10069518272436374691 : Unit := ()
noncomputable def cw.tw17387281983583371026 : Unit := ()
noncomputable def cw.tw15618827073052187588 : Unit := ()
noncomputable def cw.tw2395028089782186332 : Unit := ()
noncomputable def cw.tw150055803531023912 : Unit := ()
noncomputable def cw.tw18304297806474590201 : Unit := ()
noncomputable def cw.tw11483438563260395259 : Unit := ()
noncomputable def cw.tw1976542675867556708 : Unit := ()
noncomputable def cw.tw4244931044867564926 : Unit := ()
noncomputable def cw.tw9541536091937306825 : Unit := ()
noncomputable def cw.tw12170487370589320340 : Unit := ()
noncomputable def cw.tw8235274700520875756 : Unit := ()
noncomputable def cw.tw12209640824403791731 : Unit := ()
noncomputable def cw.tw17657795153254820970 : Unit := ()
noncomputable def cw.tw15804123230855986435 : Unit := ()
noncomputable def cw.tw15989016253578036142 : Unit := ()
noncomputable def cw.tw595030353378452280 : Unit := ()
noncomputable def cw.tw8578200742203505518 : Unit := ()
noncomputable def cw.tw3894738365949950526 : Unit := ()
noncomputable def cw.tw12219048285895307825 : Unit := ()
noncomputable def cw.tw6402412403632602194 : Unit := ()
noncomputable def cw.tw10254225826030826583 : Unit := ()
noncomputable def cw.tw478726648789714012 : Unit := ()
noncomputable def cw.tw12484582015531557854 : Unit := ()
noncomputable def cw.tw16488866693769255802 : Unit := ()
noncomputable def cw.tw3361030825825666459 : Unit := ()
noncomputable def cw.tw12374713789029534532 : Unit := ()
noncomputable def cw.tw5432464314292252184 : Unit := ()
noncomputable def cw.tw11835236348681913158 : Unit := ()
noncomputable def cw.tw2823607854020130885 : Unit := ()
noncomputable def cw.tw5856075937425471911 : Unit := ()
noncomputable def cw.tw12604581072356917665 : Unit := ()
noncomputable def cw.tw11858888606750667168 : Unit := ()
noncomputable def cw.tw11810827675469887966 : Unit := ()
noncomputable def cw.tw3219064901496800493 : Unit := ()
noncomputable def cw.tw6250631848690904875 : Unit := ()
noncomputable def cw.tw16369202978500782894 : Unit := ()
noncomputable def cw.tw6355508091716073158 : Unit := ()
noncomputable def cw.tw8915800771016826836 : Unit := ()
noncomputable def cw.tw6540055653751091053 : Unit := ()
noncomputable def cw.tw12486823770521077606 : Unit := ()
noncomputable def cw.tw18123910505689591576 : Unit := ()
noncomputable def cw.tw11604840796402550502 : Unit := ()
noncomputable def cw.tw11915410004619331560 : Unit := ()
noncomputable def cw.tw4196440405857626574 : Unit := ()
noncomputable def cw.tw901685015123543468 : Unit := ()
noncomputable def cw.tw18160478938398004615 : Unit := ()
noncomputable def cw.tw3804928157389977681 : Unit := ()
noncomputable def cw.tw16824190548350425898 : Unit := ()
noncomputable def cw.tw13272739832340760470 : Unit := ()
noncomputable def cw.tw8384915272945194035 : Unit := ()
noncomputable def cw.tw7716138712649031654 : Unit := ()
noncomputable def cw.tw14258395815014568892 : Unit := ()
noncomputable def cw.tw13615851739603360048 : Unit := ()
noncomputable def cw.tw152034021565319771 : Unit := ()
noncomputable def cw.tw4175879605228117226 : Unit := ()
noncomputable def cw.tw17329575702692675289 : Unit := ()
noncomputable def cw.tw29858063095107952 : Unit := ()
noncomputable def cw.tw1839846897034548856 : Unit := ()
noncomputable def cw.tw14164378308283954321 : Unit := ()
noncomputable def cw.tw12046278427487817510 : Unit := ()
noncomputable def cw.tw12488421313777977891 : Unit := ()
noncomputable def cw.tw1762239749680118177 : Unit := ()
noncomputable def cw.tw5949534727629794615 : Unit := ()
noncomputable def cw.tw4840682358638498336 : Unit := ()
noncomputable def cw.tw3576030937932314833 : Unit := ()
noncomputable def cw.tw7894522602903069913 : Unit := ()
noncomputable def cw.tw4657666084184085436 : Unit := ()
noncomputable def cw.tw5334607026134724119 : Unit := ()
noncomputable def cw.tw17976442626167259408 : Unit := ()
noncomputable def cw.tw2357993714691321559 : Unit := ()
noncomputable def cw.tw12944858055169091781 : Unit := ()
noncomputable def cw.tw9231667054898550447 : Unit := ()
noncomputable def cw.tw11039386301503910758 : Unit := ()
noncomputable def cw.tw6120414356561448888 : Unit := ()
noncomputable def cw.tw13371535860148599311 : Unit := ()
noncomputable def cw.tw5778158966918368152 : Unit := ()
noncomputable def cw.tw16438877246773014368 : Unit := ()
noncomputable def cw.tw7265125150382499793 : Unit := ()
noncomputable def cw.tw11068519763337610334 : Unit := ()
noncomputable def cw.tw3390154659337532762 : Unit := ()
noncomputable def cw.tw3477409525616003896 : Unit := ()
noncomputable def cw.tw10072103808481078559 : Unit := ()
noncomputable def cw.tw17534601892986067672 : Unit := ()
noncomputable def cw.tw9615583871236350234 : Unit := ()
noncomputable def cw.tw15758607949956068206 : Unit := ()
noncomputable def cw.tw406224095482047619 : Unit := ()
noncomputable def cw.tw198980471113348087 : Unit := ()
noncomputable def cw.tw1310404986797988267 : Unit := ()
noncomputable def cw.tw11322065900247502948 : Unit := ()
noncomputable def cw.tw12728222785577406730 : Unit := ()
noncomputable def cw.tw16666019005346053449 : Unit := ()
noncomputable def cw.tw11220621319726393749 : Unit := ()
noncomputable def cw.tw3964994802561939674 : Unit := ()
noncomputable def cw.tw9338455033780806428 : Unit := ()
noncomputable def cw.tw10029436688513181051 : Unit := ()
noncomputable def cw.tw10493770022597245936 : Unit := ()
noncomputable def cw.tw11746427022147578154 : Unit := ()
noncomputable def cw.tw291011319067039620 : Unit := ()
noncomputable def cw.tw14951641260305525846 : Unit := ()
noncomputable def cw.tw6455449845924209759 : Unit := ()
noncomputable def cw.tw8610043518512438269 : Unit := ()
noncomputable def cw.tw13962130148245492997 : Unit := ()
noncomputable def cw.tw1753351074557523059 : Unit := ()
noncomputable def cw.tw3558907823053836738 : Unit := ()
noncomputable def cw.tw7655666521258877681 : Unit := ()
noncomputable def cw.tw16133089079569586185 : Unit := ()
noncomputable def cw.tw4674000768699361083 : Unit := ()
noncomputable def cw.tw3098844795081510440 : Unit := ()
noncomputable def cw.tw886166690863328485 : Unit := ()
noncomputable def cw.tw16331585984122884730 : Unit := ()
noncomputable def cw.tw11254835128405952838 : Unit := ()
noncomputable def cw.tw7933598695462535439 : Unit := ()
noncomputable def cw.tw8464919669445413369 : Unit := ()
noncomputable def cw.tw8042496257394154199 : Unit := ()
noncomputable def cw.tw11750167914525963992 : Unit := ()
noncomputable def cw.tw10858871412793448962 : Unit := ()
noncomputable def cw.tw16892425095099944456 : Unit := ()
noncomputable def cw.tw1732343715881608574 : Unit := ()
noncomputable def cw.tw17643807563322946168 : Unit := ()
noncomputable def cw.tw524954011437762717 : Unit := ()
noncomputable def cw.tw9036864618746112827 : Unit := ()
noncomputable def cw.tw12176814119288601676 : Unit := ()
noncomputable def cw.tw6609210492850183328 : Unit := ()
noncomputable def cw.tw5200862062936829548 : Unit := ()
noncomputable def cw.tw7464976743067150075 : Unit := ()
noncomputable def cw.tw14691934555027728919 : Unit := ()
noncomputable def cw.tw1475616521678945598 : Unit := ()
noncomputable def cw.tw11560447734728013412 : Unit := ()
noncomputable def cw.tw15209926966429407265 : Unit := ()
noncomputable def cw.tw435978806095774757 : Unit := ()
noncomputable def cw.tw9809503321613087508 : Unit := ()
noncomputable def cw.tw10410563499097374197 : Unit := ()
noncomputable def cw.tw2452513298381069132 : Unit := ()
noncomputable def cw.tw3274165426250351427 : Unit := ()
noncomputable def cw.tw14267102760067653454 : Unit := ()
noncomputable def cw.tw7468813185589932393 : Unit := ()
noncomputable def cw.tw13438360705153437068 : Unit := ()
noncomputable def cw.tw15190811547350698578 : Unit := ()
noncomputable def cw.tw15940985733699833019 : Unit := ()
noncomputable def cw.tw11230297558273082921 : Unit := ()
noncomputable def cw.tw12396489633257290764 : Unit := ()
noncomputable def cw.tw6262413360026281431 : Unit := ()
noncomputable def cw.tw17275977830898236587 : Unit := ()
noncomputable def cw.tw6320875117684393849 : Unit := ()
noncomputable def cw.tw3601989285102703135 : Unit := ()
noncomputable def cw.tw16195597304952758191 : Unit := ()
noncomputable def cw.tw5245493218853190803 : Unit := ()
noncomputable def cw.tw16028573636967759883 : Unit := ()
noncomputable def cw.tw16981877489122089719 : Unit := ()
noncomputable def cw.tw5395661240462712053 : Unit := ()
noncomputable def cw.tw8455966481309877803 : Unit := ()
noncomputable def cw.tw16233698020743536633 : Unit := ()
noncomputable def cw.tw15514027689262201468 : Unit := ()
noncomputable def cw.tw2245319242301140743 : Unit := ()
noncomputable def cw.tw12235438783284694707 : Unit := ()
noncomputable def cw.tw8960846382218005785 : Unit := ()
noncomputable def cw.tw17630338827588770586 : Unit := ()
noncomputable def cw.tw750883736228922512 : Unit := ()
noncomputable def cw.tw10302710294379834347 : Unit := ()
noncomputable def cw.tw13623606153206842937 : Unit := ()
noncomputable def cw.tw17850519018577780207 : Unit := ()
noncomputable def cw.tw13478071635555322896 : Unit := ()
noncomputable def cw.tw571869149339587647 : Unit := ()
noncomputable def cw.tw5122744651824193062 : Unit := ()
noncomputable def cw.tw4432251587439159602 : Unit := ()
noncomputable def cw.tw1301324445596408646 : Unit := ()
noncomputable def cw.tw12460997675799849042 : Unit := ()
noncomputable def cw.tw4091334601905724262 : Unit := ()
noncomputable def cw.tw5549261742330947047 : Unit := ()
noncomputable def cw.tw10123263287325761120 : Unit := ()
noncomputable def cw.tw5630639797531520482 : Unit := ()
noncomputable def cw.tw17118733604976242562 : Unit := ()
noncomputable def cw.tw9919525273966334950 : Unit := ()
noncomputable def cw.tw5413555852538423167 : Unit := ()
noncomputable def cw.tw6558781468896429484 : Unit := ()
noncomputable def cw.tw4763627736303329388 : Unit := ()
noncomputable def cw.tw7246643524497811697 : Unit := ()
noncomputable def cw.tw17085326466948407615 : Unit := ()
noncomputable def cw.tw4350481521388059186 : Unit := ()
noncomputable def cw.tw9418208980753856983 : Unit := ()
noncomputable def cw.tw13822479935870811025 : Unit := ()
noncomputable def cw.tw15371911420997015688 : Unit := ()
noncomputable def cw.tw4062982196242685497 : Unit := ()
noncomputable def cw.tw15510850327984767076 : Unit := ()
noncomputable def cw.tw9571867649744697822 : Unit := ()
noncomputable def cw.tw3168819232203767724 : Unit := ()
noncomputable def cw.tw14452271069060164173 : Unit := ()
noncomputable def cw.tw7636110588802331547 : Unit := ()
noncomputable def cw.tw5388139028228030205 : Unit := ()
noncomputable def cw.tw15378527966222290386 : Unit := ()
noncomputable def cw.tw3495442906236997405 : Unit := ()
noncomputable def cw.tw9153399244239330014 : Unit := ()
noncomputable def cw.tw4453892773699670542 : Unit := ()
noncomputable def cw.tw284551357456404941 : Unit := ()
noncomputable def cw.tw10894422157771956130 : Unit := ()
noncomputable def cw.tw8646514453607415508 : Unit := ()
noncomputable def cw.tw15049829269738445084 : Unit := ()
noncomputable def cw.tw14171019895472146004 : Unit := ()
noncomputable def cw.tw16166972867334128794 : Unit := ()
noncomputable def cw.tw12455195456397839185 : Unit := ()
noncomputable def cw.tw13743811873732172972 : Unit := ()
noncomputable def cw.tw5812776060496067139 : Unit := ()
noncomputable def cw.tw10476776233466893016 : Unit := ()
noncomputable def cw.tw16845011390422778020 : Unit := ()
noncomputable def cw.tw17039848188100729085 : Unit := ()
noncomputable def cw.tw5149090442948278450 : Unit := ()
noncomputable def cw.tw9727492190780517967 : Unit := ()
noncomputable def cw.tw5783418407584470650 : Unit := ()
noncomputable def cw.tw16601573340346569099 : Unit := ()
noncomputable def cw.tw6722251748626227137 : Unit := ()
noncomputable def cw.tw10990324277679620691 : Unit := ()
noncomputable def cw.tw14967881026509808602 : Unit := ()
noncomputable def cw.tw7592274207237101366 : Unit := ()
noncomputable def cw.tw11880314078780918264 : Unit := ()
noncomputable def cw.tw1863664209517766724 : Unit := ()
noncomputable def cw.tw6592582173071662457 : Unit := ()
noncomputable def cw.tw7495422675543952829 : Unit := ()
noncomputable def cw.tw4472246148228185358 : Unit := ()
noncomputable def cw.tw12826771995418084239 : Unit := ()
noncomputable def cw.tw3413386806562782196 : Unit := ()
noncomputable def cw.tw17959302153949644806 : Unit := ()
noncomputable def cw.tw1320032953589230437 : Unit := ()
noncomputable def cw.tw11434387870980552485 : Unit := ()
noncomputable def cw.tw2437537016187366159 : Unit := ()
noncomputable def cw.tw2119496383272873293 : Unit := ()
noncomputable def cw.tw3962496541271946108 : Unit := ()
noncomputable def cw.tw3012745541560393602 : Unit := ()
noncomputable def cw.tw18257314045110955654 : Unit := ()
noncomputable def cw.tw11218599852938587728 : Unit := ()
noncomputable def cw.tw17386848065407248533 : Unit := ()
noncomputable def cw.tw1866788658771475695 : Unit := ()
noncomputable def cw.tw10273925973259459938 : Unit := ()
noncomputable def cw.tw1827873298639845806 : Unit := ()
noncomputable def cw.tw6940480880851675952 : Unit := ()
noncomputable def cw.tw8656802203441076311 : Unit := ()
noncomputable def cw.tw15098035983816873264 : Unit := ()
noncomputable def cw.tw8048641291553349087 : Unit := ()
noncomputable def cw.tw14715191861724666174 : Unit := ()
noncomputable def cw.tw17748903803142540296 : Unit := ()
noncomputable def cw.tw9358274750264838065 : Unit := ()
noncomputable def cw.tw2196794541889519134 : Unit := ()
noncomputable def cw.tw1829379434580166836 : Unit := ()
noncomputable def cw.tw13102360093064833186 : Unit := ()
noncomputable def cw.tw2989821918546127270 : Unit := ()
noncomputable def cw.tw5496980980282472692 : Unit := ()
noncomputable def cw.tw2925586764646853542 : Unit := ()
noncomputable def cw.tw3417918253651985003 : Unit := ()
noncomputable def cw.tw14187503381994792775 : Unit := ()
noncomputable def cw.tw7694458995988760690 : Unit := ()
noncomputable def cw.tw18428560998126663368 : Unit := ()
noncomputable def cw.tw7201222511497468304 : Unit := ()
noncomputable def cw.tw6725520587722359557 : Unit := ()
noncomputable def cw.tw4862834609895987369 : Unit := ()
noncomputable def cw.tw6505637585609676525 : Unit := ()
noncomputable def cw.tw4445533615212121643 : Unit := ()
noncomputable def cw.tw18328512956359009647 : Unit := ()
noncomputable def cw.tw8240279851119034267 : Unit := ()
noncomputable def cw.tw4579362098783169310 : Unit := ()
noncomputable def cw.tw2536484440049877633 : Unit := ()
noncomputable def cw.tw150718097304624728 : Unit := ()
noncomputable def cw.tw2822634382750766397 : Unit := ()
noncomputable def cw.tw1234362014024236558 : Unit := ()
noncomputable def cw.tw3459936446253236937 : Unit := ()
noncomputable def cw.tw13883313689258838075 : Unit := ()
noncomputable def cw.tw6870349355566407481 : Unit := ()
noncomputable def cw.tw2889034122823521674 : Unit := ()
noncomputable def cw.tw1572835218778821172 : Unit := ()
noncomputable def cw.tw8592758974277479661 : Unit := ()
noncomputable def cw.tw2280358059819771136 : Unit := ()
noncomputable def cw.tw17208150753355500316 : Unit := ()
noncomputable def cw.tw3681731177612470467 : Unit := ()
noncomputable def cw.tw6886439723238321529 : Unit := ()
noncomputable def cw.tw7278577917320275639 : Unit := ()
noncomputable def cw.tw8814793327803331419 : Unit := ()
noncomputable def cw.tw2034847326169890389 : Unit := ()
noncomputable def cw.tw10677269525185504114 : Unit := ()
noncomputable def cw.tw13630375179674840580 : Unit := ()
noncomputable def cw.tw8602437929969735595 : Unit := ()
noncomputable def cw.tw656122719597194337 : Unit := ()
noncomputable def cw.tw17730474111853186923 : Unit := ()
noncomputable def cw.tw17044198874930201555 : Unit := ()
noncomputable def cw.tw4766629014091353992 : Unit := ()
noncomputable def cw.tw17308626142430746681 : Unit := ()
noncomputable def cw.tw11754658650556267126 : Unit := ()
noncomputable def cw.tw12705824073439919823 : Unit := ()
noncomputable def cw.tw13873766236739266295 : Unit := ()
noncomputable def cw.tw17317628386939406339 : Unit := ()
noncomputable def cw.tw7333113482920346693 : Unit := ()
noncomputable def cw.tw15064644712594601311 : Unit := ()
noncomputable def cw.tw7529680702517563003 : Unit := ()
noncomputable def cw.tw16469538632611453613 : Unit := ()
noncomputable def cw.tw4670026611527611478 : Unit := ()
noncomputable def cw.tw10197106118788650172 : Unit := ()
noncomputable def cw.tw87273112509439794 : Unit := ()
noncomputable def cw.tw12879298785024176671 : Unit := ()
noncomputable def cw.tw12094692095695047100 : Unit := ()
noncomputable def cw.tw2838531912927464924 : Unit := ()
noncomputable def cw.tw1201910936332873318 : Unit := ()
noncomputable def cw.tw9262325061618202332 : Unit := ()
noncomputable def cw.tw8384396914480435558 : Unit := ()
noncomputable def cw.tw13987649963944064819 : Unit := ()
noncomputable def cw.tw12205213936051623368 : Unit := ()
noncomputable def cw.tw11875235385263808230 : Unit := ()
noncomputable def cw.tw10009892489011977897 : Unit := ()
noncomputable def cw.tw12148570750413403918 : Unit := ()
noncomputable def cw.tw6910738804539150289 : Unit := ()
noncomputable def cw.tw9912904796997615669 : Unit := ()
noncomputable def cw.tw750813472475005080 : Unit := ()
noncomputable def cw.tw4851475654564121290 : Unit := ()
noncomputable def cw.tw4352191913887017548 : Unit := ()
noncomputable def cw.tw3953819060038431951 : Unit := ()
noncomputable def cw.tw5388074872082462974 : Unit := ()
noncomputable def cw.tw12547047035168592067 : Unit := ()
noncomputable def cw.tw1192352477516011486 : Unit := ()
noncomputable def cw.tw3604256219676143697 : Unit := ()
noncomputable def cw.tw7612212776131644618 : Unit := ()
noncomputable def cw.tw9776956086818222174 : Unit := ()
noncomputable def cw.tw14663869374091327130 : Unit := ()
noncomputable def cw.tw17622869887619142117 : Unit := ()
noncomputable def cw.tw10108442846848987267 : Unit := ()
noncomputable def cw.tw2088735340262782289 : Unit := ()
noncomputable def cw.tw3022869472097559339 : Unit := ()
noncomputable def cw.tw15738741339427707777 : Unit := ()
noncomputable def cw.tw1646465779078202339 : Unit := ()
noncomputable def cw.tw14761310442516060954 : Unit := ()
noncomputable def cw.tw2001829792024246339 : Unit := ()
noncomputable def cw.tw5839983672926808403 : Unit := ()
noncomputable def cw.tw13266643233877899150 : Unit := ()
noncomputable def cw.tw17431198414408938084 : Unit := ()
noncomputable def cw.tw11342735330678010356 : Unit := ()
noncomputable def cw.tw10395843251819449040 : Unit := ()
noncomputable def cw.tw16815963439682412190 : Unit := ()
noncomputable def cw.tw12494030651214390733 : Unit := ()
noncomputable def cw.tw362418340335849113 : Unit := ()
noncomputable def cw.tw2843113680988522234 : Unit := ()
noncomputable def cw.tw12393164526537524024 : Unit := ()
noncomputable def cw.tw3507270537623628007 : Unit := ()
noncomputable def cw.tw14240352255720746961 : Unit := ()
noncomputable def cw.tw16754771184641975193 : Unit := ()
noncomputable def cw.tw17003564319060614714 : Unit := ()
noncomputable def cw.tw2632174618804633513 : Unit := ()
noncomputable def cw.tw1223577857591769135 : Unit := ()
noncomputable def cw.tw3587650788803137151 : Unit := ()
noncomputable def cw.tw1858334014474815042 : Unit := ()
noncomputable def cw.tw37409182203974944 : Unit := ()
noncomputable def cw.tw17925611632361815322 : Unit := ()
noncomputable def cw.tw1166202756139861526 : Unit := ()
noncomputable def cw.tw5846156132787549179 : Unit := ()
noncomputable def cw.tw2886318359868725429 : Unit := ()
noncomputable def cw.tw5895808102599731661 : Unit := ()
noncomputable def cw.tw14636836700144649316 : Unit := ()
noncomputable def cw.tw12170613006079228257 : Unit := ()
noncomputable def cw.tw5160837540018762233 : Unit := ()
noncomputable def cw.tw13983706160141317276 : Unit := ()
noncomputable def cw.tw12544061891239716003 : Unit := ()
noncomputable def cw.tw8338584402816043430 : Unit := ()
noncomputable def cw.tw5143631510548929513 : Unit := ()
noncomputable def cw.tw9909634801680022713 : Unit := ()
noncomputable def cw.tw15653090873756837908 : Unit := ()
noncomputable def cw.tw7245598405226537449 : Unit := ()
noncomputable def cw.tw10925982676703824585 : Unit := ()
noncomputable def cw.tw7778562511825277745 : Unit := ()
noncomputable def cw.tw5446289514955409386 : Unit := ()
noncomputable def cw.tw2339669827856226976 : Unit := ()
noncomputable def cw.tw4014820854761308184 : Unit := ()
noncomputable def cw.tw13440761400709180564 : Unit := ()
noncomputable def cw.tw7211535499692057074 : Unit := ()
noncomputable def cw.tw14150054720654349805 : Unit := ()
noncomputable def cw.tw15404323421726800491 : Unit := ()
noncomputable def cw.tw17519259684416862866 : Unit := ()
noncomputable def cw.tw2349864197082291290 : Unit := ()
noncomputable def cw.tw5945268615418673942 : Unit := ()
noncomputable def cw.tw3163425408574534335 : Unit := ()
noncomputable def cw.tw3082957337048097205 : Unit := ()
noncomputable def cw.tw16854029533801285256 : Unit := ()
noncomputable def cw.tw8891644299328461007 : Unit := ()
noncomputable def cw.tw9484423932939390980 : Unit := ()
noncomputable def cw.tw5164600623723704576 : Unit := ()
noncomputable def cw.tw8236137820640347005 : Unit := ()
noncomputable def cw.tw4532014654001008574 : Unit := ()
noncomputable def cw.tw15457151748251429605 : Unit := ()
noncomputable def cw.tw14853097583094154963 : Unit := ()
noncomputable def cw.tw9222738055213301723 : Unit := ()
noncomputable def cw.tw17631570186117343663 : Unit := ()
noncomputable def cw.tw13755845441471122259 : Unit := ()
noncomputable def cw.tw6771049911761263549 : Unit := ()
noncomputable def cw.tw15574269678278934339 : Unit := ()
noncomputable def cw.tw9752024301308814762 : Unit := ()
noncomputable def cw.tw6370876647666134208 : Unit := ()
noncomputable def cw.tw17834511099357786134 : Unit := ()
noncomputable def cw.tw17609652704948274667 : Unit := ()
noncomputable def cw.tw14309475899073295102 : Unit := ()
noncomputable def cw.tw8188605849907866690 : Unit := ()
noncomputable def cw.tw12404778801700027849 : Unit := ()
noncomputable def cw.tw11922439085697448496 : Unit := ()
noncomputable def cw.tw1360143582568944794 : Unit := ()
noncomputable def cw.tw11143899784489171507 : Unit := ()
noncomputable def cw.tw5489825421649296718 : Unit := ()
noncomputable def cw.tw398731234330105970 : Unit := ()
noncomputable def cw.tw5016183218337980966 : Unit := ()
noncomputable def cw.tw13487605883176258320 : Unit := ()
noncomputable def cw.tw7509873989339655443 : Unit := ()
noncomputable def cw.tw5559505764683130655 : Unit := ()
noncomputable def cw.tw7070918963655059068 : Unit := ()
noncomputable def cw.tw12074800750580769965 : Unit := ()
noncomputable def cw.tw3528151788492135644 : Unit := ()
noncomputable def cw.tw12284678416235168609 : Unit := ()
noncomputable def cw.tw15377519182399367661 : Unit := ()
noncomputable def cw.tw2091858291159175532 : Unit := ()
noncomputable def cw.tw2296967259863546239 : Unit := ()
noncomputable def cw.tw9834586408147574216 : Unit := ()
noncomputable def cw.tw16266575776023974326 : Unit := ()
noncomputable def cw.tw11586860806099170860 : Unit := ()
noncomputable def cw.tw12833462717075065425 : Unit := ()
noncomputable def cw.tw7800144678589849697 : Unit := ()
noncomputable def cw.tw9713538816024611350 : Unit := ()
noncomputable def cw.tw6976717480010072746 : Unit := ()
noncomputable def cw.tw6518825268287776730 : Unit := ()
noncomputable def cw.tw14660578482202924501 : Unit := ()
noncomputable def cw.tw13780061514556756106 : Unit := ()
noncomputable def cw.tw17040767920144905969 : Unit := ()
noncomputable def cw.tw206839277710335438 : Unit := ()
noncomputable def cw.tw3162884323796798324 : Unit := ()
noncomputable def cw.tw5054966686840483345 : Unit := ()
noncomputable def cw.tw12452677925297043047 : Unit := ()
noncomputable def cw.tw17544317311361296971 : Unit := ()
noncomputable def cw.tw16337616911660049179 : Unit := ()
noncomputable def cw.tw12165436697460319915 : Unit := ()
noncomputable def cw.tw6847272019824127103 : Unit := ()
noncomputable def cw.tw7682922625267000921 : Unit := ()
noncomputable def cw.tw9579098735579506056 : Unit := ()
noncomputable def cw.tw4817048596294814046 : Unit := ()
noncomputable def cw.tw7751601795067426584 : Unit := ()
noncomputable def cw.tw11536786079996788453 : Unit := ()
noncomputable def cw.tw3077990525559814113 : Unit := ()
noncomputable def cw.tw12077313387518822445 : Unit := ()
noncomputable def cw.tw2201291634120817534 : Unit := ()
noncomputable def cw.tw2405705447040963548 : Unit := ()
noncomputable def cw.tw16064258821705122355 : Unit := ()
noncomputable def cw.tw16916544961682249480 : Unit := ()
noncomputable def cw.tw17395816810168964604 : Unit := ()
noncomputable def cw.tw10362180420265512515 : Unit := ()
noncomputable def cw.tw3575919509052005590 : Unit := ()
noncomputable def cw.tw11076772228991380029 : Unit := ()
noncomputable def cw.tw6351748245720836112 : Unit := ()
noncomputable def cw.tw5885651121546184281 : Unit := ()
noncomputable def cw.tw15070021635275963550 : Unit := ()
noncomputable def cw.tw15493578473645241776 : Unit := ()
noncomputable def cw.tw7212198634623266415 : Unit := ()
noncomputable def cw.tw16042547877381480675 : Unit := ()
noncomputable def cw.tw16917183180371324590 : Unit := ()
noncomputable def cw.tw7020911041878803799 : Unit := ()
noncomputable def cw.tw14645105685068853365 : Unit := ()
noncomputable def cw.tw15800916458890617462 : Unit := ()
noncomputable def cw.tw16198640964549459898 : Unit := ()
noncomputable def cw.tw3715742391406479060 : Unit := ()
noncomputable def cw.tw12496708813047381464 : Unit := ()
noncomputable def cw.tw7177354832959717821 : Unit := ()
noncomputable def cw.tw5713163230449635729 : Unit := ()
noncomputable def cw.tw3560595304242491492 : Unit := ()
noncomputable def cw.tw5010897137498727021 : Unit := ()
noncomputable def cw.tw7522773143204596496 : Unit := ()
noncomputable def cw.tw16409855574793272378 : Unit := ()
noncomputable def cw.tw2628702604883574243 : Unit := ()
noncomputable def cw.tw14754356441871074791 : Unit := ()
noncomputable def cw.tw17193606692625293845 : Unit := ()
noncomputable def cw.tw8850999377205314685 : Unit := ()
noncomputable def cw.tw13294389319934976903 : Unit := ()
noncomputable def cw.tw3363377985580790232 : Unit := ()
noncomputable def cw.tw8949110453547400386 : Unit := ()
noncomputable def cw.tw16883990747239166564 : Unit := ()
noncomputable def cw.tw9926899359172749013 : Unit := ()
noncomputable def cw.tw17545467932681296214 : Unit := ()
noncomputable def cw.tw255326854664200784 : Unit := ()
noncomputable def cw.tw11418685174341444542 : Unit := ()
noncomputable def cw.tw9852409169342779629 : Unit := ()
noncomputable def cw.tw16764197438291155796 : Unit := ()
noncomputable def cw.tw13875505940051090143 : Unit := ()
noncomputable def cw.tw12429254968364836587 : Unit := ()
noncomputable def cw.tw9089358926009899764 : Unit := ()
noncomputable def cw.tw10923704082916529982 : Unit := ()
noncomputable def cw.tw17761291948746656775 : Unit := ()
noncomputable def cw.tw6294409820466217347 : Unit := ()
noncomputable def cw.tw569951224748375197 : Unit := ()
noncomputable def cw.tw12278796805692228438 : Unit := ()
noncomputable def cw.tw15766245182211837231 : Unit := ()
noncomputable def cw.tw16516169966572636445 : Unit := ()
noncomputable def cw.tw7058415023620031495 : Unit := ()
noncomputable def cw.tw13376037395442565478 : Unit := ()
noncomputable def cw.tw870068491826176850 : Unit := ()
noncomputable def cw.tw8814507837164569175 : Unit := ()
noncomputable def cw.tw14289734765686230283 : Unit := ()
noncomputable def cw.tw1001847936735871217 : Unit := ()
noncomputable def cw.tw1741316790125937810 : Unit := ()
noncomputable def cw.tw3094094522940069652 : Unit := ()
noncomputable def cw.tw17910021971842657717 : Unit := ()
noncomputable def cw.tw8864285343174276969 : Unit := ()
noncomputable def cw.tw2170339112981439272 : Unit := ()
noncomputable def cw.tw13290746307810344322 : Unit := ()
noncomputable def cw.tw6277826125938767056 : Unit := ()
noncomputable def cw.tw165204628773026997 : Unit := ()
noncomputable def cw.tw10350173450883840979 : Unit := ()
noncomputable def cw.tw17491939209671086633 : Unit := ()
noncomputable def cw.tw10507235143153469047 : Unit := ()
noncomputable def cw.tw5944809173468573455 : Unit := ()
noncomputable def cw.tw160405494449849049 : Unit := ()
noncomputable def cw.tw4539535142447213279 : Unit := ()
noncomputable def cw.tw4857827882118868083 : Unit := ()
noncomputable def cw.tw8612380763541040486 : Unit := ()
noncomputable def cw.tw12003891016840366342 : Unit := ()
noncomputable def cw.tw16691170734988418909 : Unit := ()
noncomputable def cw.tw1247294326406277946 : Unit := ()
noncomputable def cw.tw4253261791629862154 : Unit := ()
noncomputable def cw.tw7159023885248432822 : Unit := ()
noncomputable def cw.tw3764488511098954792 : Unit := ()
noncomputable def cw.tw9677564834816186800 : Unit := ()
noncomputable def cw.tw12901815633157013524 : Unit := ()
noncomputable def cw.tw4371838849506850062 : Unit := ()
noncomputable def cw.tw1184031629254359674 : Unit := ()
noncomputable def cw.tw10062461266014948799 : Unit := ()
noncomputable def cw.tw14896758271648991315 : Unit := ()
noncomputable def cw.tw4072604236418321687 : Unit := ()
noncomputable def cw.tw14572692277219400969 : Unit := ()
noncomputable def cw.tw4608471958582074447 : Unit := ()
noncomputable def cw.tw6070198774710269256 : Unit := ()
noncomputable def cw.tw5689436012916003494 : Unit := ()
noncomputable def cw.tw7167882463906249088 : Unit := ()
noncomputable def cw.tw10781682834690945847 : Unit := ()
noncomputable def cw.tw18301170196674299018 : Unit := ()
noncomputable def cw.tw17169840104539312714 : Unit := ()
noncomputable def cw.tw8470452942916456924 : Unit := ()
noncomputable def cw.tw3347014687819508700 : Unit := ()
noncomputable def cw.tw18004946892968060532 : Unit := ()
noncomputable def cw.tw4943021301302438079 : Unit := ()
noncomputable def cw.tw1899915677272061241 : Unit := ()
noncomputable def cw.tw10175819511769531158 : Unit := ()
noncomputable def cw.tw6258142599283018679 : Unit := ()
noncomputable def cw.tw11421232195869613319 : Unit := ()
noncomputable def cw.tw15937076219869047809 : Unit := ()
noncomputable def cw.tw11906598049277226648 : Unit := ()
noncomputable def cw.tw15111483031490467662 : Unit := ()
noncomputable def cw.tw13884470025910126975 : Unit := ()
noncomputable def cw.tw1482320130255755068 : Unit := ()
noncomputable def cw.tw9326787349212500705 : Unit := ()
noncomputable def cw.tw15706733078901665420 : Unit := ()
noncomputable def cw.tw3155486348850173582 : Unit := ()
noncomputable def cw.tw11659976292828567020 : Unit := ()
noncomputable def cw.tw2479480179507780843 : Unit := ()
noncomputable def cw.tw1095610008259352575 : Unit := ()
noncomputable def cw.tw13093843657069115452 : Unit := ()
noncomputable def cw.tw5535552981011608807 : Unit := ()
noncomputable def cw.tw17931522994474728786 : Unit := ()
noncomputable def cw.tw17594232605770016194 : Unit := ()
noncomputable def cw.tw3852261508644692692 : Unit := ()
noncomputable def cw.tw1048761877080062654 : Unit := ()
noncomputable def cw.tw6043374796957958266 : Unit := ()
noncomputable def cw.tw1670314551267926339 : Unit := ()
noncomputable def cw.tw1198913694621946705 : Unit := ()
noncomputable def cw.tw7150512123823774009 : Unit := ()
noncomputable def cw.tw7174448109271074059 : Unit := ()
noncomputable def cw.tw7356465518337016342 : Unit := ()
noncomputable def cw.tw8809725234841043125 : Unit := ()
noncomputable def cw.tw17432152182680101307 : Unit := ()
noncomputable def cw.tw10337033408605167323 : Unit := ()
noncomputable def cw.tw14487444087801795547 : Unit := ()
noncomputable def cw.tw10881834249466746773 : Unit := ()
noncomputable def cw.tw8404369427983028792 : Unit := ()
noncomputable def cw.tw2158863508981819273 : Unit := ()
noncomputable def cw.tw629685121580659136 : Unit := ()
noncomputable def cw.tw10716450737588456245 : Unit := ()
noncomputable def cw.tw13342451505449514251 : Unit := ()
noncomputable def cw.tw850198200866496526 : Unit := ()
noncomputable def cw.tw6700036812594121839 : Unit := ()
noncomputable def cw.tw14611389666579969553 : Unit := ()
noncomputable def cw.tw10534401271574096376 : Unit := ()
noncomputable def cw.tw5785106792770538607 : Unit := ()
noncomputable def cw.tw16731437187866489228 : Unit := ()
noncomputable def cw.tw10380076721783923887 : Unit := ()
noncomputable def cw.tw11928798751556335818 : Unit := ()
noncomputable def cw.tw2654411255174462980 : Unit := ()
noncomputable def cw.tw16013532430055747976 : Unit := ()
noncomputable def cw.tw1129946868401675958 : Unit := ()
noncomputable def cw.tw3747282893534524912 : Unit := ()
noncomputable def cw.tw2067326125260552176 : Unit := ()
noncomputable def cw.tw6018009600850819237 : Unit := ()
noncomputable def cw.tw3636408810568252795 : Unit := ()
noncomputable def cw.tw8353907540656738485 : Unit := ()
noncomputable def cw.tw9459749993489986317 : Unit := ()
noncomputable def cw.tw18153323675266707290 : Unit := ()
noncomputable def cw.tw295466338093642964 : Unit := ()
noncomputable def cw.tw12806784019236783152 : Unit := ()
noncomputable def cw.tw16930871003815047948 : Unit := ()
noncomputable def cw.tw2165431362491003783 : Unit := ()
noncomputable def cw.tw690291318194668435 : Unit := ()
noncomputable def cw.tw1267503910884463994 : Unit := ()
noncomputable def cw.tw9663463071969971945 : Unit := ()
noncomputable def cw.tw7503299195609683997 : Unit := ()
noncomputable def cw.tw5508713140213389730 : Unit := ()
noncomputable def cw.tw9367528742876353473 : Unit := ()
noncomputable def cw.tw7884449554551019859 : Unit := ()
noncomputable def cw.tw5785365134605825054 : Unit := ()
noncomputable def cw.tw10485878008771408533 : Unit := ()
noncomputable def cw.tw6421626014405569153 : Unit := ()
noncomputable def cw.tw11703850890434453405 : Unit := ()
noncomputable def cw.tw14721352694681171851 : Unit := ()
noncomputable def cw.tw8701078356522328697 : Unit := ()
noncomputable def cw.tw5413298740976051946 : Unit := ()
noncomputable def cw.tw6775478568104715353 : Unit := ()
noncomputable def cw.tw7732241274385507867 : Unit := ()
noncomputable def cw.tw820623831780502103 : Unit := ()
noncomputable def cw.tw13692198374645844119 : Unit := ()
noncomputable def cw.tw10501295578274422689 : Unit := ()
noncomputable def cw.tw8367390884126343824 : Unit := ()
noncomputable def cw.tw3298955843360003133 : Unit := ()
noncomputable def cw.tw3720205290800185634 : Unit := ()
noncomputable def cw.tw10429527013251239871 : Unit := ()
noncomputable def cw.tw6121131925498076511 : Unit := ()
noncomputable def cw.tw563626396076323218 : Unit := ()
noncomputable def cw.tw11381329923816113111 : Unit := ()
noncomputable def cw.tw18215516122386580225 : Unit := ()
noncomputable def cw.tw1258158650800221159 : Unit := ()
noncomputable def cw.tw5486599625138141305 : Unit := ()
noncomputable def cw.tw3794337630165912356 : Unit := ()
noncomputable def cw.tw15745328297381615532 : Unit := ()
noncomputable def cw.tw1760405048886711807 : Unit := ()
noncomputable def cw.tw449550124111788763 : Unit := ()
noncomputable def cw.tw7651481391777032084 : Unit := ()
noncomputable def cw.tw7799754076242180982 : Unit := ()
noncomputable def cw.tw6137525091240039444 : Unit := ()
noncomputable def cw.tw15864056872706045721 : Unit := ()
noncomputable def cw.tw13101704718675416334 : Unit := ()
noncomputable def cw.tw1401924675934526888 : Unit := ()
noncomputable def cw.tw2282541388381660621 : Unit := ()
noncomputable def cw.tw11770335931523416213 : Unit := ()
noncomputable def cw.tw15187549380642300617 : Unit := ()
noncomputable def cw.tw424653355786838044 : Unit := ()
noncomputable def cw.tw10283194110133293821 : Unit := ()
noncomputable def cw.tw10220390648087449953 : Unit := ()
noncomputable def cw.tw7657905660152132556 : Unit := ()
noncomputable def cw.tw15259678340491836669 : Unit := ()
noncomputable def cw.tw4862144058124473569 : Unit := ()
noncomputable def cw.tw606616763052236337 : Unit := ()
noncomputable def cw.tw12474190365393862481 : Unit := ()
noncomputable def cw.tw13747900882118374933 : Unit := ()
noncomputable def cw.tw17028191164412650563 : Unit := ()
noncomputable def cw.tw5375968824360660473 : Unit := ()
noncomputable def cw.tw6925770212547226674 : Unit := ()
noncomputable def cw.tw9095837090777478225 : Unit := ()
noncomputable def cw.tw15169018772115783247 : Unit := ()
noncomputable def cw.tw15615973256659115469 : Unit := ()
noncomputable def cw.tw9003574075524017939 : Unit := ()
noncomputable def cw.tw4141053896843584238 : Unit := ()
noncomputable def cw.tw15758518333343051778 : Unit := ()
noncomputable def cw.tw11045220611111324268 : Unit := ()
noncomputable def cw.tw13718693542244978846 : Unit := ()
noncomputable def cw.tw13787465097613081314 : Unit := ()
noncomputable def cw.tw2302005364966875507 : Unit := ()
noncomputable def cw.tw537351388707688129 : Unit := ()
noncomputable def cw.tw7384157455045015651 : Unit := ()
noncomputable def cw.tw9628865630247598821 : Unit := ()
noncomputable def cw.tw16910040204873882888 : Unit := ()
noncomputable def cw.tw7453595262283321307 : Unit := ()
noncomputable def cw.tw16413468134923033291 : Unit := ()
noncomputable def cw.tw9830316505712865887 : Unit := ()
noncomputable def cw.tw12741776750581099131 : Unit := ()
noncomputable def cw.tw2126917484217011972 : Unit := ()
noncomputable def cw.tw1765725074253088241 : Unit := ()
noncomputable def cw.tw10886488294501445450 : Unit := ()
noncomputable def cw.tw9270990383643273699 : Unit := ()
noncomputable def cw.tw13287282537480348760 : Unit := ()
noncomputable def cw.tw8916799454095949372 : Unit := ()
noncomputable def cw.tw8505396573256860023 : Unit := ()
noncomputable def cw.tw5265537290224106599 : Unit := ()
noncomputable def cw.tw11252524664071276656 : Unit := ()
noncomputable def cw.tw11015192254292781473 : Unit := ()
noncomputable def cw.tw6403810052837582342 : Unit := ()
noncomputable def cw.tw4754219302356205853 : Unit := ()
noncomputable def cw.tw18117922410737045533 : Unit := ()
noncomputable def cw.tw645041115563505924 : Unit := ()
noncomputable def cw.tw152319972654231069 : Unit := ()
noncomputable def cw.tw5486905403739556638 : Unit := ()
noncomputable def cw.tw15271707326096061978 : Unit := ()
noncomputable def cw.tw541702200365555811 : Unit := ()
noncomputable def cw.tw12605311891778387269 : Unit := ()
noncomputable def cw.tw2677558529608486761 : Unit := ()
noncomputable def cw.tw10061564649832930533 : Unit := ()
noncomputable def cw.tw13366425650258955499 : Unit := ()
noncomputable def cw.tw382292197199351673 : Unit := ()
noncomputable def cw.tw11249955283910059466 : Unit := ()
noncomputable def cw.tw3880247318878139326 : Unit := ()
noncomputable def cw.tw13057780787085409677 : Unit := ()
noncomputable def cw.tw14935672393520693772 : Unit := ()
noncomputable def cw.tw16746941401054511308 : Unit := ()
noncomputable def cw.tw11447778420007498118 : Unit := ()
noncomputable def cw.tw13634308598994951057 : Unit := ()
noncomputable def cw.tw10417276246721045325 : Unit := ()
noncomputable def cw.tw6164836077763293698 : Unit := ()
noncomputable def cw.tw11751927079061947295 : Unit := ()
noncomputable def cw.tw7514944324457989047 : Unit := ()
noncomputable def cw.tw5133874989699880047 : Unit := ()
noncomputable def cw.tw9682814213435993191 : Unit := ()
noncomputable def cw.tw7439397527254467506 : Unit := ()
noncomputable def cw.tw12049519446507184960 : Unit := ()
noncomputable def cw.tw3408429918949976814 : Unit := ()
noncomputable def cw.tw7035751971170888317 : Unit := ()
noncomputable def cw.tw10981653292331664416 : Unit := ()
noncomputable def cw.tw15865235098794170833 : Unit := ()
noncomputable def cw.tw1162316108600954807 : Unit := ()
noncomputable def cw.tw9035391227389243447 : Unit := ()
noncomputable def cw.tw153048218768736021 : Unit := ()
noncomputable def cw.tw1855280148956710301 : Unit := ()
noncomputable def cw.tw16494870174620098323 : Unit := ()
noncomputable def cw.tw14788520036634372961 : Unit := ()
noncomputable def cw.tw687176480019105021 : Unit := ()
noncomputable def cw.tw270502979457259680 : Unit := ()
noncomputable def cw.tw5854004994505877476 : Unit := ()
noncomputable def cw.tw7127745723582549875 : Unit := ()
noncomputable def cw.tw2537711057378917062 : Unit := ()
noncomputable def cw.tw10517817158482021736 : Unit := ()
noncomputable def cw.tw9574553611694136491 : Unit := ()
noncomputable def cw.tw5960540646505071985 : Unit := ()
noncomputable def cw.tw4028281700789883799 : Unit := ()
noncomputable def cw.tw9702267900656169311 : Unit := ()
noncomputable def cw.tw11751998716075514716 : Unit := ()
noncomputable def cw.tw1334340992697143558 : Unit := ()
noncomputable def cw.tw1682289673648168252 : Unit := ()
noncomputable def cw.tw16759438911624739596 : Unit := ()
noncomputable def cw.tw13148802790596755050 : Unit := ()
noncomputable def cw.tw2424036609782971184 : Unit := ()
noncomputable def cw.tw3983890510296347889 : Unit := ()
noncomputable def cw.tw5478446297009530983 : Unit := ()
noncomputable def cw.tw2847033070647288395 : Unit := ()
noncomputable def cw.tw9428052983708969440 : Unit := ()
noncomputable def cw.tw7240550782382875226 : Unit := ()
noncomputable def cw.tw8281040592670292517 : Unit := ()
noncomputable def cw.tw8905895460497131198 : Unit := ()
noncomputable def cw.tw2330660320884713735 : Unit := ()
noncomputable def cw.tw5680903237747551189 : Unit := ()
noncomputable def cw.tw11408446092821777910 : Unit := ()
noncomputable def cw.tw5984283434497713854 : Unit := ()
noncomputable def cw.tw3497730242668469862 : Unit := ()
noncomputable def cw.tw17952580028794200703 : Unit := ()
noncomputable def cw.tw15304353244161017925 : Unit := ()
noncomputable def cw.tw12644513084357470357 : Unit := ()
noncomputable def cw.tw12504649369525600271 : Unit := ()
noncomputable def cw.tw207604500973351841 : Unit := ()
noncomputable def cw.tw14529530913711990989 : Unit := ()
noncomputable def cw.tw3232252823582582225 : Unit := ()
noncomputable def cw.tw16448210907181281830 : Unit := ()
noncomputable def cw.tw17865991295642463455 : Unit := ()
noncomputable def cw.tw4921557877388104165 : Unit := ()
noncomputable def cw.tw14393996859273169994 : Unit := ()
noncomputable def cw.tw1430634277976083635 : Unit := ()
noncomputable def cw.tw10400990832800263431 : Unit := ()
noncomputable def cw.tw7247829826745843562 : Unit := ()
noncomputable def cw.tw15495923471554250601 : Unit := ()
noncomputable def cw.tw790775729399076067 : Unit := ()
noncomputable def cw.tw4412153894069363751 : Unit := ()
noncomputable def cw.tw15773184277719825311 : Unit := ()
noncomputable def cw.tw2559185497009035100 : Unit := ()
noncomputable def cw.tw71974479221608595 : Unit := ()
noncomputable def cw.tw15840941481451307060 : Unit := ()
noncomputable def cw.tw2132152794768352424 : Unit := ()
noncomputable def cw.tw3406433264014858248 : Unit := ()
noncomputable def cw.tw14667547644415735818 : Unit := ()
noncomputable def cw.tw82334272504649403 : Unit := ()
noncomputable def cw.tw5148386920396526881 : Unit := ()
noncomputable def cw.tw15588543109395128195 : Unit := ()
noncomputable def cw.tw6946250092498860507 : Unit := ()
noncomputable def cw.tw18145021772092944345 : Unit := ()
noncomputable def cw.tw5487871274116769444 : Unit := ()
noncomputable def cw.tw17728243304819505558 : Unit := ()
noncomputable def cw.tw2642075761509026456 : Unit := ()
noncomputable def cw.tw14160314230378204243 : Unit := ()
noncomputable def cw.tw3824044862066366044 : Unit := ()
noncomputable def cw.tw9285789834462567115 : Unit := ()
noncomputable def cw.tw12430846021048350264 : Unit := ()
noncomputable def cw.tw9174199802520731848 : Unit := ()
noncomputable def cw.tw14457793533385175785 : Unit := ()
noncomputable def cw.tw9690170581984985086 : Unit := ()
noncomputable def cw.tw3282836750741380540 : Unit := ()
noncomputable def cw.tw3614371357110042262 : Unit := ()
noncomputable def cw.tw17882831203706337919 : Unit := ()
noncomputable def cw.tw1386460458854623637 : Unit := ()
noncomputable def cw.tw12026366138938795044 : Unit := ()
noncomputable def cw.tw13974612087961636067 : Unit := ()
noncomputable def cw.tw3100444119966152113 : Unit := ()
noncomputable def cw.tw7461458973501345080 : Unit := ()
noncomputable def cw.tw9721559927892097362 : Unit := ()
noncomputable def cw.tw10537277779084631892 : Unit := ()
noncomputable def cw.tw2672088340483322875 : Unit := ()
noncomputable def cw.tw5344891932697001038 : Unit := ()
noncomputable def cw.tw9567680818108777586 : Unit := ()
noncomputable def cw.tw15179398567400093435 : Unit := ()
noncomputable def cw.tw4678228505909690418 : Unit := ()
noncomputable def cw.tw13279229609582487449 : Unit := ()
noncomputable def cw.tw144823317193734240 : Unit := ()
noncomputable def cw.tw14108251187009513098 : Unit := ()
noncomputable def cw.tw11375821190854673680 : Unit := ()
noncomputable def cw.tw5295909927319136685 : Unit := ()
noncomputable def cw.tw61186367524322976 : Unit := ()
noncomputable def cw.tw15744843120750414045 : Unit := ()
noncomputable def cw.tw10787246075982744711 : Unit := ()
noncomputable def cw.tw12196176389731286687 : Unit := ()
noncomputable def cw.tw2380076144285126355 : Unit := ()
noncomputable def cw.tw16469630475622890073 : Unit := ()
noncomputable def cw.tw5315716184444134795 : Unit := ()
noncomputable def cw.tw6549628397172419807 : Unit := ()
noncomputable def cw.tw5500114003866827397 : Unit := ()
noncomputable def cw.tw9061530207216291374 : Unit := ()
noncomputable def cw.tw1464551576981916655 : Unit := ()
noncomputable def cw.tw6649243955452880809 : Unit := ()
noncomputable def cw.tw3773175275827832469 : Unit := ()
noncomputable def cw.tw15174872595650598156 : Unit := ()
noncomputable def cw.tw3935473582681719712 : Unit := ()
noncomputable def cw.tw9977282503189861189 : Unit := ()
noncomputable def cw.tw3997941055652569797 : Unit := ()
noncomputable def cw.tw16797836952496255778 : Unit := ()
noncomputable def cw.tw17288935555280246560 : Unit := ()
noncomputable def cw.tw4951841280732597803 : Unit := ()
noncomputable def cw.tw3125641243754351071 : Unit := ()
noncomputable def cw.tw1250944030267393709 : Unit := ()
noncomputable def cw.tw17756888872108387508 : Unit := ()
noncomputable def cw.tw18369400146589056343 : Unit := ()
noncomputable def cw.tw16529872585032380816 : Unit := ()
noncomputable def cw.tw7627799410307197 : Unit := ()
noncomputable def cw.tw10085818013370136085 : Unit := ()
noncomputable def cw.tw11031114846092982468 : Unit := ()
noncomputable def cw.tw12385222194968706129 : Unit := ()
noncomputable def cw.tw16169217161491619216 : Unit := ()
noncomputable def cw.tw1606746431766886451 : Unit := ()
noncomputable def cw.tw68855574625089363 : Unit := ()
noncomputable def cw.tw15189075611223420045 : Unit := ()
noncomputable def cw.tw8530195743135589103 : Unit := ()
noncomputable def cw.tw9461631633261132872 : Unit := ()
noncomputable def cw.tw12827584372364601057 : Unit := ()
noncomputable def cw.tw17939338341665994675 : Unit := ()
noncomputable def cw.tw5968489126546815432 : Unit := ()
noncomputable def cw.tw15049123542625464071 : Unit := ()
noncomputable def cw.tw15914432114400275016 : Unit := ()
noncomputable def cw.tw2631159792543367756 : Unit := ()
noncomputable def cw.tw14699880884353928148 : Unit := ()
noncomputable def cw.tw10629086032876430473 : Unit := ()
noncomputable def cw.tw11754798323341028941 : Unit := ()
noncomputable def cw.tw9245189729788574950 : Unit := ()
noncomputable def cw.tw11170759442187083659 : Unit := ()
noncomputable def cw.tw6539419282294539521 : Unit := ()
noncomputable def cw.tw6665526052566930915 : Unit := ()
noncomputable def cw.tw18335864770729216273 : Unit := ()
noncomputable def cw.tw1061759024922983633 : Unit := ()
noncomputable def cw.tw17874169657292035396 : Unit := ()
noncomputable def cw.tw2677502189164720416 : Unit := ()
noncomputable def cw.tw2998348815218018863 : Unit := ()
noncomputable def cw.tw9703892697941778104 : Unit := ()
noncomputable def cw.tw9062283904529213376 : Unit := ()
noncomputable def cw.tw15322188881520497878 : Unit := ()
noncomputable def cw.tw805211334105056691 : Unit := ()
noncomputable def cw.tw14815655621447405532 : Unit := ()
noncomputable def cw.tw17089891964379074565 : Unit := ()
noncomputable def cw.tw7361954070945319235 : Unit := ()
noncomputable def cw.tw17685422501944348411 : Unit := ()
noncomputable def cw.tw8303337484601495593 : Unit := ()
noncomputable def cw.tw9478955981730905527 : Unit := ()
noncomputable def cw.tw6057588005634665211 : Unit := ()
noncomputable def cw.tw14273009359556633897 : Unit := ()
noncomputable def cw.tw14480803216886224938 : Unit := ()
noncomputable def cw.tw13847606056765510174 : Unit := ()
noncomputable def cw.tw14433279240033115033 : Unit := ()
noncomputable def cw.tw1597149651569341992 : Unit := ()
noncomputable def cw.tw1837535377574081260 : Unit := ()
noncomputable def cw.tw17788867100912671519 : Unit := ()
noncomputable def cw.tw16318853312891250111 : Unit := ()
noncomputable def cw.tw3968715040575513520 : Unit := ()
noncomputable def cw.tw12483647917352657136 : Unit := ()
noncomputable def cw.tw12651754363735763536 : Unit := ()
noncomputable def cw.tw10509066262467895687 : Unit := ()
noncomputable def cw.tw9844601757963920399 : Unit := ()
noncomputable def cw.tw3375556859353004718 : Unit := ()
noncomputable def cw.tw2880479692072130809 : Unit := ()
noncomputable def cw.tw11136361311385813741 : Unit := ()
noncomputable def cw.tw2997650177908568007 : Unit := ()
noncomputable def cw.tw2140078189498992563 : Unit := ()
noncomputable def cw.tw2546800512522163093 : Unit := ()
noncomputable def cw.tw12235906073218952547 : Unit := ()
noncomputable def cw.tw8822983255902662277 : Unit := ()
noncomputable def cw.tw14247632542644735915 : Unit := ()
noncomputable def cw.tw10481492460730474135 : Unit := ()
noncomputable def cw.tw10955785923435688956 : Unit := ()
noncomputable def cw.tw1124316342284699942 : Unit := ()
noncomputable def cw.tw4446232506713193925 : Unit := ()
noncomputable def cw.tw6982852248638628387 : Unit := ()
noncomputable def cw.tw11671165848918294520 : Unit := ()
noncomputable def cw.tw9033869314074756916 : Unit := ()
noncomputable def cw.tw3734221620433385596 : Unit := ()
noncomputable def cw.tw8863678764398326281 : Unit := ()
noncomputable def cw.tw14804091655825759361 : Unit := ()
noncomputable def cw.tw11279908285243045140 : Unit := ()
noncomputable def cw.tw6916408754081214177 : Unit := ()
noncomputable def cw.tw10724568801947046133 : Unit := ()
noncomputable def cw.tw3325528795482897374 : Unit := ()
noncomputable def cw.tw15269812315205123357 : Unit := ()
noncomputable def cw.tw2377609647856190301 : Unit := ()
noncomputable def cw.tw5358635571366558801 : Unit := ()
noncomputable def cw.tw5635414492833330716 : Unit := ()
noncomputable def cw.tw4741751083535046859 : Unit := ()
noncomputable def cw.tw5078974935161899914 : Unit := ()
noncomputable def cw.tw4454246131209077272 : Unit := ()
noncomputable def cw.tw1517534825565237395 : Unit := ()
noncomputable def cw.tw15097409641171182138 : Unit := ()
noncomputable def cw.tw11078580786968122039 : Unit := ()
noncomputable def cw.tw3602460209475626942 : Unit := ()
noncomputable def cw.tw9580786093286786816 : Unit := ()
noncomputable def cw.tw11972846680552242081 : Unit := ()
noncomputable def cw.tw16976162226026321709 : Unit := ()
noncomputable def cw.tw12957116144991849069 : Unit := ()
noncomputable def cw.tw7114790414003337389 : Unit := ()
noncomputable def cw.tw17068026537999513650 : Unit := ()
noncomputable def cw.tw16377964216280682512 : Unit := ()
noncomputable def cw.tw3759897997930648735 : Unit := ()
noncomputable def cw.tw18130194285338661485 : Unit := ()
noncomputable def cw.tw13551938517067819750 : Unit := ()
noncomputable def cw.tw9347624293533801759 : Unit := ()
noncomputable def cw.tw4417653098690802809 : Unit := ()
noncomputable def cw.tw9327030246230825579 : Unit := ()
noncomputable def cw.tw16787801162661580368 : Unit := ()
noncomputable def cw.tw1649632962896475509 : Unit := ()
noncomputable def cw.tw1760614732078070354 : Unit := ()
noncomputable def cw.tw8584714696031813343 : Unit := ()
noncomputable def cw.tw13582491113601414707 : Unit := ()
noncomputable def cw.tw8265391832754436437 : Unit := ()
noncomputable def cw.tw12695038279699488485 : Unit := ()
noncomputable def cw.tw6209569694911076562 : Unit := ()
noncomputable def cw.tw1588020074795803128 : Unit := ()
noncomputable def cw.tw4788111578843106342 : Unit := ()
noncomputable def cw.tw604202616685367 : Unit := ()
noncomputable def cw.tw15946318593155996306 : Unit := ()
noncomputable def cw.tw13741288145241353385 : Unit := ()
noncomputable def cw.tw11247654053761561185 : Unit := ()
noncomputable def cw.tw16229377668062971087 : Unit := ()
noncomputable def cw.tw7507046900873518984 : Unit := ()
noncomputable def cw.tw12300673196082835442 : Unit := ()
noncomputable def cw.tw4847984639734451406 : Unit := ()
noncomputable def cw.tw5634961056595871360 : Unit := ()
noncomputable def cw.tw4191936987726123019 : Unit := ()
noncomputable def cw.tw4875357976315054599 : Unit := ()
noncomputable def cw.tw14548968915000840582 : Unit := ()
noncomputable def cw.tw2208246449549394626 : Unit := ()
noncomputable def cw.tw12718993524080911910 : Unit := ()
noncomputable def cw.tw11872036739277177827 : Unit := ()
noncomputable def cw.tw4615964972489842434 : Unit := ()
noncomputable def cw.tw8561358924239353134 : Unit := ()
noncomputable def cw.tw7513980277918327852 : Unit := ()
noncomputable def cw.tw1511250360892860384 : Unit := ()
noncomputable def cw.tw7801989880083365681 : Unit := ()
noncomputable def cw.tw12754448419701027950 : Unit := ()
noncomputable def cw.tw9731873614828253153 : Unit := ()
noncomputable def cw.tw3154616092846510596 : Unit := ()
noncomputable def cw.tw3290505682397001416 : Unit := ()
noncomputable def cw.tw4497065373674862681 : Unit := ()
noncomputable def cw.tw15114788922209178278 : Unit := ()
noncomputable def cw.tw14927665701643404805 : Unit := ()
noncomputable def cw.tw12910548343235362723 : Unit := ()
noncomputable def cw.tw11127803882114186156 : Unit := ()
noncomputable def cw.tw9333184870933454096 : Unit := ()
noncomputable def cw.tw15779534605396823208 : Unit := ()
noncomputable def cw.tw11086630749760879774 : Unit := ()
noncomputable def cw.tw4357126401250407683 : Unit := ()
noncomputable def cw.tw904687230028414966 : Unit := ()
noncomputable def cw.tw12375031668852751663 : Unit := ()
noncomputable def cw.tw13288535444246500574 : Unit := ()
noncomputable def cw.tw9415847869338096025 : Unit := ()
noncomputable def cw.tw13294487265925236350 : Unit := ()
noncomputable def cw.tw8461371759979112762 : Unit := ()
noncomputable def cw.tw929596527580418530 : Unit := ()
noncomputable def cw.tw4396576789485872803 : Unit := ()
noncomputable def cw.tw17308003122589828955 : Unit := ()
noncomputable def cw.tw7136496253863088101 : Unit := ()
noncomputable def cw.tw4036176847976599829 : Unit := ()
noncomputable def cw.tw2642582262576168789 : Unit := ()
noncomputable def cw.tw6685099253781938047 : Unit := ()
noncomputable def cw.tw3192620204840896225 : Unit := ()
noncomputable def cw.tw8886525709245039632 : Unit := ()
noncomputable def cw.tw14099714809709095937 : Unit := ()
noncomputable def cw.tw14294555197703138188 : Unit := ()
noncomputable def cw.tw3860059829726791206 : Unit := ()
noncomputable def cw.tw7637191196069981053 : Unit := ()
noncomputable def cw.tw8538403806035920175 : Unit := ()
noncomputable def cw.tw12487397591920855904 : Unit := ()
noncomputable def cw.tw10189704783988565896 : Unit := ()
noncomputable def cw.tw12556174504036285505 : Unit := ()
noncomputable def cw.tw4827209162441322257 : Unit := ()
noncomputable def cw.tw2649762808437026519 : Unit := ()
noncomputable def cw.tw6322065021542861094 : Unit := ()
noncomputable def cw.tw8423783694632617175 : Unit := ()
noncomputable def cw.tw8750266409499588466 : Unit := ()
noncomputable def cw.tw5790161404388931817 : Unit := ()
noncomputable def cw.tw9120030487294489145 : Unit := ()
noncomputable def cw.tw15992819923508515479 : Unit := ()
noncomputable def cw.tw12494910776546509892 : Unit := ()
noncomputable def cw.tw14533114697053141678 : Unit := ()
noncomputable def cw.tw9332628173962660924 : Unit := ()
noncomputable def cw.tw12510508821534056273 : Unit := ()
noncomputable def cw.tw14646723041591995566 : Unit := ()
noncomputable def cw.tw15541772932183850177 : Unit := ()
noncomputable def cw.tw17014318020254037613 : Unit := ()
noncomputable def cw.tw5310433231319247210 : Unit := ()
noncomputable def cw.tw7033710665421526353 : Unit := ()
noncomputable def cw.tw14086083280695772417 : Unit := ()
noncomputable def cw.tw7040901795538896096 : Unit := ()
noncomputable def cw.tw11270212115693166263 : Unit := ()
noncomputable def cw.tw11260913956373821800 : Unit := ()
noncomputable def cw.tw16919006624917379114 : Unit := ()
noncomputable def cw.tw8476984087586887884 : Unit := ()
noncomputable def cw.tw13998153933982540556 : Unit := ()
noncomputable def cw.tw12054122481165462934 : Unit := ()
noncomputable def cw.tw13250449565162808169 : Unit := ()
noncomputable def cw.tw602248898015639982 : Unit := ()
noncomputable def cw.tw8404140335377659146 : Unit := ()
noncomputable def cw.tw5467588189707586424 : Unit := ()
noncomputable def cw.tw17828774779680352397 : Unit := ()
noncomputable def cw.tw13741576002769581795 : Unit := ()
noncomputable def cw.tw9592076705456791662 : Unit := ()
noncomputable def cw.tw1423356260392717437 : Unit := ()
noncomputable def cw.tw2031960088512844715 : Unit := ()
noncomputable def cw.tw16482581780040293502 : Unit := ()
noncomputable def cw.tw18198759255475650804 : Unit := ()
noncomputable def cw.tw5600871106958576279 : Unit := ()
noncomputable def cw.tw14738603649851109533 : Unit := ()
noncomputable def cw.tw4583722826841369634 : Unit := ()
noncomputable def cw.tw5873590440581843887 : Unit := ()
noncomputable def cw.tw8690997349054092969 : Unit := ()
noncomputable def cw.tw12042675843166734093 : Unit := ()
noncomputable def cw.tw14745492969458195020 : Unit := ()
noncomputable def cw.tw15008799145415156008 : Unit := ()
noncomputable def cw.tw15099299062483062896 : Unit := ()
noncomputable def cw.tw11692608057908673488 : Unit := ()
noncomputable def cw.tw18239514141244953237 : Unit := ()
noncomputable def cw.tw13720027318834144188 : Unit := ()
noncomputable def cw.tw18300981966276743051 : Unit := ()
noncomputable def cw.tw17856945626066447210 : Unit := ()
noncomputable def cw.tw9185669988235138405 : Unit := ()
noncomputable def cw.tw7200936473960087245 : Unit := ()
noncomputable def cw.tw8449473995245419038 : Unit := ()
noncomputable def cw.tw1636278714972562167 : Unit := ()
noncomputable def cw.tw11474246971035347520 : Unit := ()
noncomputable def cw.tw1892659091262756355 : Unit := ()
noncomputable def cw.tw16933103434399205559 : Unit := ()
noncomputable def cw.tw9736420473741417368 : Unit := ()
noncomputable def cw.tw7209464811757235864 : Unit := ()
noncomputable def cw.tw2011584700593955137 : Unit := ()
noncomputable def cw.tw5000132874964926114 : Unit := ()
noncomputable def cw.tw1885465077312491902 : Unit := ()
noncomputable def cw.tw4769817257947663983 : Unit := ()
noncomputable def cw.tw9090762235858781852 : Unit := ()
noncomputable def cw.tw3597772417779879854 : Unit := ()
noncomputable def cw.tw15565180990105023407 : Unit := ()
noncomputable def cw.tw2769164676016782812 : Unit := ()
noncomputable def cw.tw5238595789594773175 : Unit := ()
noncomputable def cw.tw7029024856293348627 : Unit := ()
noncomputable def cw.tw10965719505561154079 : Unit := ()
noncomputable def cw.tw11516645466692749859 : Unit := ()
noncomputable def cw.tw1466289849588158371 : Unit := ()
noncomputable def cw.tw8432702673660540854 : Unit := ()
noncomputable def cw.tw3097201625896000712 : Unit := ()
noncomputable def cw.tw5419939564410364359 : Unit := ()
noncomputable def cw.tw7672747066635131694 : Unit := ()
noncomputable def cw.tw7109595445820290780 : Unit := ()
noncomputable def cw.tw17881000776016655923 : Unit := ()
noncomputable def cw.tw7994088235161723493 : Unit := ()
noncomputable def cw.tw4997054509317957469 : Unit := ()
noncomputable def cw.tw15166584985147919218 : Unit := ()
noncomputable def cw.tw17783643503532799026 : Unit := ()
noncomputable def cw.tw13426691062167789616 : Unit := ()
noncomputable def cw.tw1119846097978458417 : Unit := ()
noncomputable def cw.tw8176753466678742014 : Unit := ()
noncomputable def cw.tw896557624632439181 : Unit := ()
noncomputable def cw.tw2139275235861925300 : Unit := ()
noncomputable def cw.tw12234898016953173070 : Unit := ()
noncomputable def cw.tw7093139753443159449 : Unit := ()
noncomputable def cw.tw17760600180889631966 : Unit := ()
noncomputable def cw.tw13142083135346847021 : Unit := ()
noncomputable def cw.tw15239472420408974939 : Unit := ()
noncomputable def cw.tw9732783464176380561 : Unit := ()
noncomputable def cw.tw9024317823962055362 : Unit := ()
noncomputable def cw.tw9501932980161118436 : Unit := ()
noncomputable def cw.tw1881399753092651884 : Unit := ()
noncomputable def cw.tw17262130787101969492 : Unit := ()
noncomputable def cw.tw13340903015336370818 : Unit := ()
noncomputable def cw.tw8108114381917806831 : Unit := ()
noncomputable def cw.tw6688216416941393828 : Unit := ()
noncomputable def cw.tw13346231906704177938 : Unit := ()
noncomputable def cw.tw13971656184885276904 : Unit := ()
noncomputable def cw.tw6257782418639487168 : Unit := ()
noncomputable def cw.tw528389431405219539 : Unit := ()
noncomputable def cw.tw14768827524389985878 : Unit := ()
noncomputable def cw.tw16684238147060479835 : Unit := ()
noncomputable def cw.tw2819471789401677756 : Unit := ()
noncomputable def cw.tw15057926893657979891 : Unit := ()
noncomputable def cw.tw14708432069784124976 : Unit := ()
noncomputable def cw.tw16228101750661618562 : Unit := ()
noncomputable def cw.tw17028702147185440086 : Unit := ()
noncomputable def cw.tw17624073854935925647 : Unit := ()
noncomputable def cw.tw289051476735527038 : Unit := ()
noncomputable def cw.tw10836471117459569634 : Unit := ()
set_option Elab.async true in
theorem cw : PySem.Challenge.rw_in0134_01.Holds := by
  (w_on; o_law)
  o_head (kHook Mine.K39 [2, 3, 67, 68, 100, 101, 116, 117, 128, 129, 135, 136, 142, 143, 149, 150, 156, 157, 163, 164, 168, 169, 182, 183, 192, 193, 194, 209, 210, 212, 213, 214, 215, 216, 227, 228, 239, 240, 279, 469, 470, 480, 486, 487, 493, 494, 500, 501, 523, 531, 539, 547, 555, 656, 662, 663, 716, 717, 769, 775, 776, 782, 783, 784, 812, 813, 819, 820, 841, 842, 848, 849, 851, 852, 853, 854, 857, 863, 864, 870, 871, 872, 878, 879, 883, 884, 888, 889, 893, 894, 900, 901, 907, 908] (fun _ => by kernel_rfl))
  (case hw => w_witness2)
  intro w s₀ s₁ mg mb G Y fa o pm cd doc dV kV ho hd hcd hD hmg hg args vals as hpre hlay hrd hwl hlo
  have KX := kIn_of Y
  refine Ground.open G ?_
  intro T B D TE TW
  obtain ⟨bm, bo, M⟩ := bmod_of_top T
  wrow_args hpre hlay hrd hwl hlo
  refine enter_call ?_
  w_call any ho hd hcd hD T F
  rename Heap.IsList _ _ _ => hL
  rename IntsAre _ _ => hI
  rename List Int => script
  have KX' : (WW w).K.In s₁.heap := KX
  have hC : CodeHd s₁.heap 870 866 ∧ s₁.heap.get? 866 = some (tabObj #[]) := tab_of (x := Str.ofString "join") T KX' rfl (by kernel_rfl)
  have hbm := mg_of KX' T.g (nsIn_bm (w := w))
  rw [M.name] at hbm
  cases hbm
  have hB := ghost_bm hC M
  have hLg := ghost_list (tabs := [(870, 866)]) (List.forall_mem_cons.mpr ⟨hC, fun _ h => nomatch h⟩) hL
  have hV : ∀ ρ, VRel ρ _ _ := fun ρ => vrel_ints (ρ := ρ) hI
  have hzz := hI.length
  refine law_go (W := WW w) KX' no_tabs (TopR.of T) hC F rfl hg rfl (show callerA.depth + 1 + 20 < recursionLimit by decide) (show callerA.units + 3 + 20 * 20 + 100 < cLine by decide) rfl (Around.frames_deeper rfl) rfl ?core ?fin
  case fin =>
    intro s' k1 k2 k3
    refine ⟨.inl ⟨.bool true, .bool true, [], rfl, fun _ => rfl, .bool _, by wrow_post, fun q => ⟨List.nodup_nil, fun a ha => nomatch ha⟩⟩, k1, k2, k3⟩
  case core =>
    intro c hs hf hfr hrm hcl hgc
    have hr : 20 ≤ c.room := by lsm_bools
    have hz63 : script.length ≤ 63 := by lsm_bools
    have hB' : BmAt c.g := by rw [hgc]; exact ⟨_, hB⟩
    have hokL := lawL_ok (xs := script)
    have hlnL := lawL_len script
    have hneL := lawL_ne script
    have hplL : ([13, 61, 24] ++ script.take 5 : List Int).map placeNum = (lawL script).map pathOf := lawL_places script
    have hnmL := lawL_names script
    repeat' (first | tb_start | with_reducible first | refine ex_cons ?_ | refine ex_If ?_)
    refine ⟨by decide, ?_⟩
    repeat' (first | tb_start | with_reducible first | refine ex_cons ?_ | refine ex_If ?_)
    refine ⟨"list", _, list_getitem_lookup, sl_fix (by rw [hgc]; exact hLg) (fun ρ => vrel_ints hI) (by rw [List.length_map]; lsm_bools) ?_⟩
    refine op_addL (xs := [AV.int 13, AV.int 61, AV.int 24]) (ys := (script.map AV.int).take 5) rfl rfl (by rw [List.length_take]; simp only [List.length_cons, List.length_nil]; lsm_bools) ?_
    repeat' (first | tb_start | with_reducible first | refine ex_cons ?_ | refine ex_If ?_)
    refine spec_places (ns := [13, 61, 24] ++ script.take 5) (by lsm_bools) ?_ (by rw [List.length_append, List.length_take]; simp only [List.length_cons, List.length_nil]; lsm_bools) fun os1 j1 he1 hl1 hj1 => ?_
    · simp [List.map_take]
    rw [hplL] at hj1
    have ht1 : os1[0]? = some (tabO 0 866 #[]) := he1 _ _ (by simp)
    clear he1
    generalize lawL script = Ls at *
    clear hplL
    repeat' (first | tb_start | with_reducible first | refine ex_cons ?_ | refine ex_If ?_)
    refine spec_join (k := j1) (kt := 0) (by lsm_bools) hB' hj1 ht1 (by intro x hx; simp at hx) hokL (by lsm_bools) fun gn' ps hgn => ?_
    have hj2 : (os1.set 0 (tabO 0 866 ps))[j1]? = some (.list ((Ls.map pathOf).map AV.str)) := by
      have : (0 : Nat) ≠ j1 := by simp at hl1; lsm_bools
      rw [List.getElem?_set_ne this]; exact hj1
    have ht2 : (os1.set 0 (tabO 0 866 ps))[0]? = some (tabO 0 866 ps) := List.getElem?_set_self (List.getElem?_eq_some_iff.mp ht1).1
    dsimp only
    generalize os1.set 0 (tabO 0 866 ps) = os2 at *
    clear hj1 ht1 hl1 os1
    repeat' (first | tb_start | with_reducible first | refine ex_cons ?_ | refine ex_If ?_)
    refine spec_split (Ls := Ls) (by lsm_bools) hf hfr hokL (by lsm_bools) hneL rfl (line_len hokL hlnL) fun os3 j3 he3 hj3 hl3 => ?_
    have hj33 : os3[j3]? = some (.list ((Ls.map pathOf).map AV.str)) := by rw [hj3, List.map_map]; rfl
    have hj13 := he3 _ _ hj2
    have ht3 := he3 _ _ ht2
    clear he3 hj2 ht2 hj3 hl3
    repeat' (first | tb_start | with_reducible first | refine ex_cons ?_ | refine ex_If ?_)
    refine op_neL (xs := Ls.map pathOf) (ys := Ls.map pathOf) hj33 hj13 (fun x hx => ?_) (fun x hx => ?_) (by rw [List.length_map]; lsm_bools) (by rw [List.length_map]; lsm_bools) ?_
    · obtain ⟨L, h1, rfl⟩ := List.mem_map.mp hx
      exact (path_ok (hokL L h1).1).1
    · obtain ⟨L, h1, rfl⟩ := List.mem_map.mp hx
      exact (path_ok (hokL L h1).1).1
    repeat' (first | tb_start | with_reducible first | refine ex_cons ?_ | refine ex_If ?_)
    refine br_false (by simp) ?_
    repeat' (first | tb_start | with_reducible first | refine ex_cons ?_ | refine ex_If ?_)
    have hxs : ∀ x ∈ Ls.map pathOf, okP x := fun x hx => by
      obtain ⟨L, h1, rfl⟩ := List.mem_map.mp hx
      exact path_ok (hokL L h1).1
    refine spec_commonpath (xs := Ls.map pathOf) (by lsm_bools) hj13 hxs (by rw [List.length_map]; lsm_bools) (by simpa using hneL) fun os4 he4 => ?_
    rw [hnmL]
    have hj34 := he4 _ _ hj33
    have hj14 := he4 _ _ hj13
    have ht4 := he4 _ _ ht3
    clear he4 hj33 hj13 ht3
    repeat' (first | tb_start | with_reducible first | refine ex_cons ?_ | refine ex_If ?_)
    refine spec_shared (xs := Ls.map pathOf) (by lsm_bools) hj14 (fun x hx => ⟨(hxs x hx).1, (hxs x hx).2.1⟩) (by rw [List.length_map]; lsm_bools) (by simpa using hneL) fun os5 he5 => ?_
    rw [hnmL]
    have hj35 := he5 _ _ hj34
    have hj15 := he5 _ _ hj14
    have ht5 := he5 _ _ ht4
    clear he5 hj34 hj14 ht4
    repeat' (first | tb_start | with_reducible first | refine ex_cons ?_ | refine ex_If ?_)
    refine br_false (by simp) ?_
    repeat' (first | tb_start | with_reducible first | refine ex_cons ?_ | refine ex_If ?_)
    refine spec_folded (by lsm_bools) hj35 (fun L h1 => (hokL L h1).1) (by lsm_bools) hneL fun os6 he6 => ?_
    have hj16 := he6 _ _ hj15
    have ht6 := he6 _ _ ht5
    clear he6 hj35 hj15 ht5
    repeat' (first | tb_start | with_reducible first | refine ex_cons ?_ | refine ex_If ?_)
    refine spec_shared (xs := Ls.map pathOf) (by lsm_bools) hj16 (fun x hx => ⟨(hxs x hx).1, (hxs x hx).2.1⟩) (by rw [List.length_map]; lsm_bools) (by simpa using hneL) fun os7 he7 => ?_
    rw [hnmL]
    have ht7 := he7 _ _ ht6
    repeat' (first | tb_start | with_reducible first | refine ex_cons ?_ | refine ex_If ?_)
    exact ⟨congrArg (fun b => AF.ret (AV.bool b)) (decide_eq_true rfl), ⟨ps, ht7⟩, hgn⟩
end Mine
theorem PySem.Challenge.cw_in0134_01_holds : PySem.Challenge.rw_in0134_01.Holds := by
  exact Mine.cw
