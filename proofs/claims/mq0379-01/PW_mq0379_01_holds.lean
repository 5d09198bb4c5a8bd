import PyProof.Rows.All
import Wide.All
import OpenK.AllK
import Wide.FinOn
import PySem.Challenge.RW_mq0379_01
open PySem PySem.W PyProof.Rows PySem.Calls
set_option Elab.async false
set_option linter.all false
set_option maxRecDepth 100000
section
namespace Mine
noncomputable abbrev P0:Program:=PySem.Challenge.rw_mq0379_01.prog
noncomputable def aC (l:List Stmt) (n:Nat):Stmt:=match l,n with
 |[],_=>.Pass ⟨0,0,0,0⟩
 |s::_,0=>s
 |_::r,n+1=>aC r n
noncomputable def aO:Stmt→List Stmt
 | .FunctionDef _ _ body ..=>body
 | .ClassDef _ _ _ body ..=>body
 | .While _ body _ _=>body
 | .For _ _ body _ _=>body
 | .If _ body _ _=>body
 |_=>[]
noncomputable def bC:Stmt→Scope
 | .FunctionDef _ _ _ _ _ _ sc ..=>sc
 |_=>default
noncomputable def aR:List Stmt:=P0.main.body
noncomputable def shB:List Stmt:=aO (aC aR 21)
noncomputable def ioB:List Stmt:=aO (aC aR 12)
noncomputable def dE (P:Params) (k:Str) (t:Nat) (v:Value):DictEntry:=⟨PyData.keyHash P k,.str k t,v⟩
noncomputable def bY:Stmt→Arguments
 | .FunctionDef _ p ..=>p
 |_=>default
noncomputable abbrev KK:Params→Frag:=fun P=>[
(2,⟨.none,none,(.dict #[dE P "\x69mport.loaded._sre" 183 (.bool true),dE P "class._frozen_importlib.BuiltinImporter" 185 (.ref 14),dE P "watched.\x69mport" 206 (.ref 18),dE P "class._frozen_importlib.ModuleSpec" 216 (.ref 22),dE P "sys.modules.booked-epoch" 245 (.int 4 0),dE P "\x69mport.later-laid._sre" 270 (.bool true),dE P "watched.library" 272 (.ref 27),dE P "watched.library-objects" 0 (.str "\x0c\x1e" 0),dE P "watched.library-deep._sre" 273 (.str "\x04\x00\x00\x0b\x04\x00\x00\x0b\x04\x00\x00\x03\x04\x00\x00\x0b\x08\x04dict\x02" 0),dE P "\x69mport.loaded._collections" 280 (.bool true),dE P "sys.modules.landed._collections" 294 (.bool true),dE P "\x69mport.later-laid._collections" 309 (.bool true),dE P "watched.library-deep._collections" 311 (.str "\x04\x00\x00\x1d\x04\x00\x00\x1d\x04\x00\x00\x03\x04\x00\x00\x1d\x08\x04dict\x02" 0),dE P "type.__subclasses__.OSError.0" 407 (.int 73 0),dE P "type.__subclasses__.OSError.n" 408 (.int 1 0)] 15), #[]⟩),
(3,⟨(.type "dict"),none,(.dict #[dE P "__name__" 165 (.str "law_mq0379_01" 1322),dE P "__doc__" 166 .none,dE P "__package__" 167 .none,dE P "__loader__" 168 (.builtin "__main__.__loader__#opaque"),dE P "__spec__" 169 .none,dE P "__annotations__" 170 (.ref 6),dE P "__builtins__" 171 (.ref 4),dE P "__file__" 173 (.str "/claim/cut.py" 172),dE P "__cached__" 174 .none,dE P "_sre" 275 (.ref 12),dE P "deque" 317 (.type "collections.deque"),dE P "_wall" 330 (.ref 44),dE P "twin_re_1_shlex" 370 (.ref 49),dE P "_whence" 380 (.ref 56),dE P "_index" 388 (.ref 63),dE P "UnsupportedOperation" 410 (.ref 73),dE P "IOBase" 442 (.ref 93),dE P "BufferedIOBase" 460 (.ref 108),dE P "TextIOBase" 478 (.ref 120),dE P "BytesIO" 740 (.ref 350),dE P "StringIO" 1027 (.ref 597),dE P "_kind" 1038 (.ref 606),dE P "_fspath" 1047 (.ref 613),dE P "_check_arg_types" 1057 (.ref 620),dE P "isabs" 1064 (.ref 627),dE P "join" 1075 (.ref 634),dE P "dirname" 1085 (.ref 641),dE P "shlex" 1226 (.ref 732),dE P "split" 1236 (.ref 744),dE P "_find_unsafe" 1238 (.ref 745),dE P "quote" 1245 (.ref 752),dE P "twin_re_1_glob" 1314 (.ref 757),dE P "separate" 1321 (.ref 764),dE P "_law_patterns" 1336 (.ref 771),dE P "_law_written" 1346 (.ref 778),dE P "_law_read" 1356 (.ref 785),dE P "_law_meant" 1367 (.ref 792),dE P "_law_tokens" 1381 (.ref 799),dE P "law" 1387 (.ref 804)] 39), #[]⟩),
(43,⟨(.type "code"),none,(.fields #[.str "_wall" 324,.str "_wall" 325,.str "/claim/cut.py" 326,.int 3 0,.int 1 0,.int 0 0,.int 0 0,.int 3 0,.ref 38,.bool true,.int 318 0,.ref 39,.none,.ref 40,.ref 41,.ref 42,.int 328 0,.int 3 0,.str "/claim/cut.py" 329]), #[]⟩),
(44,⟨(.type "function"),none,(.func (FuncData.mk "_wall" "_wall" (bY (aC aR 2)) (.stmts (aO (aC aR 2))) (bC (aC aR 2)) 3 [] .none .none .none (.str "__main__" 164) none (.ref 43) .none 0)), #[]⟩),
(48,⟨(.type "tuple"),none,(.seq #[.int 14 0,.int 17 0,.int 4 0,.int 1 0,.int 1 0,.int 21 0,.int 9 0,.int 0 0,.int 604043296 0,.int 1 0,.int 0 0,.int 0 0,.int 0 0,.int 0 0,.int 0 0,.int 8 0,.int 4 0,.int 0 0,.int 13 0,.int 14 0,.int 21 0,.int 9 0,.int 0 0,.int 604043296 0,.int 1 0,.int 0 0,.int 0 0,.int 0 0,.int 0 0,.int 0 0,.int 8 0,.int 4 0,.int 0 0,.int 1 0]), #[]⟩),
(49,⟨(.type "re.Pattern"),none,(.fields #[.str "[^\\w@%+=:,./-]" 332,.int 256 369,.int 0 0,.none,.none,.ref 48,.int 0 0]), #[]⟩),
(62,⟨(.type "code"),none,(.fields #[.str "_index" 381,.str "_index" 382,.str "/claim/cut.py" 383,.int 13 0,.int 2 0,.int 0 0,.int 0 0,.int 3 0,.ref 57,.bool true,.int 318 0,.ref 58,.none,.ref 59,.ref 60,.ref 61,.int 386 0,.int 13 0,.str "/claim/cut.py" 387]), #[]⟩),
(63,⟨(.type "function"),none,(.func (FuncData.mk "_index" "_index" (bY (aC aR 6)) (.stmts (aO (aC aR 6))) (bC (aC aR 6)) 3 [] .none .none .none (.str "io" 371) none (.ref 62) .none 0)), #[]⟩),
(89,⟨(.type "code"),none,(.fields #[.str "__new__" 425,.str "IOBase.__new__" 426,.str "/claim/cut.py" 427,.int 25 0,.int 1 0,.int 1 0,.int 0 0,.int 15 0,.ref 84,.bool true,.int 318 0,.ref 85,.none,.ref 86,.ref 87,.ref 88,.int 431 0,.int 25 0,.str "/claim/cut.py" 432]), #[]⟩),
(90,⟨(.type "function"),none,(.func (FuncData.mk "__new__" "IOBase.__new__" (bY (aC (aO (aC aR 8)) 1)) (.stmts (aO (aC (aO (aC aR 8)) 1))) (bC (aC (aO (aC aR 8)) 1)) 3 [] .none .none .none (.str "io" 371) none (.ref 89) .none 0)), #[]⟩),
(92,⟨(.type "dict"),none,(.dict #[dE P "__module__" 418 (.str "io" 423),dE P "__firstlineno__" 422 (.int 22 421),dE P "__new__" 433 (.ref 94),dE P "__static_attributes__" 434 (.ref 91),dE P "__dict__" 437 (.ref 95),dE P "__weakref__" 439 (.ref 96),dE P "__doc__" 440 .none] 4), #[]⟩),
(93,⟨(.type "type"),none,(.cls (ClassData.mk "IOBase" [.type "object"] [.ref 93,.type "object"] 92 "IOBase" true [] [.ref 108,.ref 120] false none false)), #[none,none,some (.str "IOBase" 411),some (.str "IOBase" 419),some .none,some (.bool true)]⟩),
(94,⟨(.type "staticmethod"),none,(.fields #[.ref 90]), #[]⟩),
(107,⟨(.type "dict"),none,(.dict #[dE P "__module__" 450 (.str "io" 455),dE P "__firstlineno__" 454 (.int 29 453),dE P "__static_attributes__" 457 (.ref 106),dE P "__doc__" 458 .none] 2), #[]⟩),
(108,⟨(.type "type"),none,(.cls (ClassData.mk "BufferedIOBase" [.ref 93] [.ref 108,.ref 93,.type "object"] 107 "BufferedIOBase" true [] [.ref 350] false none false)), #[some (.ref 99),none,some (.str "BufferedIOBase" 443),some (.str "BufferedIOBase" 451),some .none,some (.bool true)]⟩),
(119,⟨(.type "dict"),none,(.dict #[dE P "__module__" 468 (.str "io" 473),dE P "__firstlineno__" 472 (.int 31 471),dE P "__static_attributes__" 475 (.ref 118),dE P "__doc__" 476 .none] 2), #[]⟩),
(120,⟨(.type "type"),none,(.cls (ClassData.mk "TextIOBase" [.ref 93] [.ref 120,.ref 93,.type "object"] 119 "TextIOBase" true [] [.ref 597] false none false)), #[some (.ref 111),none,some (.str "TextIOBase" 461),some (.str "TextIOBase" 469),some .none,some (.bool true)]⟩),
(349,⟨(.type "dict"),none,(.dict #[dE P "__module__" 486 (.str "_io" 491),dE P "__firstlineno__" 490 (.int 33 489),dE P "__init__" 500 (.ref 137),dE P "_BytesIO__check" 507 (.ref 144),dE P "_BytesIO__line" 518 (.ref 151),dE P "closed" 526 (.ref 159),dE P "close" 533 (.ref 166),dE P "__enter__" 540 (.ref 173),dE P "__exit__" 548 (.ref 180),dE P "readable" 555 (.ref 187),dE P "writable" 562 (.ref 194),dE P "seekable" 569 (.ref 201),dE P "isatty" 576 (.ref 208),dE P "flush" 583 (.ref 215),dE P "fileno" 590 (.ref 222),dE P "detach" 597 (.ref 229),dE P "getvalue" 604 (.ref 236),dE P "getbuffer" 611 (.ref 243),dE P "tell" 618 (.ref 250),dE P "seek" 628 (.ref 258),dE P "truncate" 636 (.ref 266),dE P "read" 648 (.ref 274),dE P "read1" 658 (.ref 282),dE P "readinto" 668 (.ref 289),dE P "readinto1" 676 (.ref 296),dE P "readline" 686 (.ref 304),dE P "readlines" 694 (.ref 312),dE P "__iter__" 701 (.ref 319),dE P "__next__" 709 (.ref 326),dE P "write" 719 (.ref 333),dE P "writelines" 727 (.ref 340),dE P "__repr__" 734 (.ref 347),dE P "__static_attributes__" 737 (.ref 348),dE P "__doc__" 738 .none] 2), #[]⟩),
(350,⟨(.type "type"),none,(.cls (ClassData.mk "BytesIO" [.ref 108] [.ref 350,.ref 108,.ref 93,.type "object"] 349 "BytesIO" true [] [] false none false)), #[some (.ref 123),none,some (.str "BytesIO" 479),some (.str "BytesIO" 487),some .none,some (.bool true)]⟩),
(360,⟨(.type "tuple"),none,(.seq #[.str "" 755,.str "\n" 756]), #[]⟩),
(366,⟨(.type "code"),none,(.fields #[.str "__init__" 757,.str "StringIO.__init__" 758,.str "/claim/cut.py" 759,.int 206 0,.int 3 0,.int 0 0,.int 0 0,.int 3 0,.ref 361,.bool true,.int 318 0,.ref 362,.none,.ref 363,.ref 364,.ref 365,.int 763 0,.int 206 0,.str "/claim/cut.py" 764]), #[]⟩),
(367,⟨(.type "function"),none,(.func (FuncData.mk "__init__" "StringIO.__init__" (bY (aC ioB 1)) (.stmts (aO (aC ioB 1))) (bC (aC ioB 1)) 3 [] (.ref 360) .none .none (.str "io" 371) none (.ref 366) .none 0)), #[]⟩),
(373,⟨(.type "code"),none,(.fields #[.str "__translated" 766,.str "StringIO.__translated" 767,.str "/claim/cut.py" 768,.int 219 0,.int 2 0,.int 0 0,.int 0 0,.int 3 0,.ref 368,.bool true,.int 318 0,.ref 369,.none,.ref 370,.ref 371,.ref 372,.int 772 0,.int 219 0,.str "/claim/cut.py" 773]), #[]⟩),
(374,⟨(.type "function"),none,(.func (FuncData.mk "__translated" "StringIO.__translated" (bY (aC ioB 2)) (.stmts (aO (aC ioB 2))) (bC (aC ioB 2)) 3 [] .none .none .none (.str "io" 371) none (.ref 373) .none 0)), #[]⟩),
(380,⟨(.type "code"),none,(.fields #[.str "__check" 775,.str "StringIO.__check" 776,.str "/claim/cut.py" 777,.int 227 0,.int 1 0,.int 0 0,.int 0 0,.int 3 0,.ref 375,.bool true,.int 318 0,.ref 376,.none,.ref 377,.ref 378,.ref 379,.int 779 0,.int 227 0,.str "/claim/cut.py" 780]), #[]⟩),
(381,⟨(.type "function"),none,(.func (FuncData.mk "__check" "StringIO.__check" (bY (aC ioB 3)) (.stmts (aO (aC ioB 3))) (bC (aC ioB 3)) 3 [] .none .none .none (.str "io" 371) none (.ref 380) .none 0)), #[]⟩),
(536,⟨(.type "tuple"),none,(.seq #[.int (-1) 948]), #[]⟩),
(542,⟨(.type "code"),none,(.fields #[.str "read" 949,.str "StringIO.read" 950,.str "/claim/cut.py" 951,.int 349 0,.int 2 0,.int 2 0,.int 0 0,.int 3 0,.ref 537,.bool true,.int 318 0,.ref 538,.none,.ref 539,.ref 540,.ref 541,.int 956 0,.int 349 0,.str "/claim/cut.py" 957]), #[]⟩),
(543,⟨(.type "function"),none,(.func (FuncData.mk "read" "StringIO.read" (bY (aC ioB 25)) (.stmts (aO (aC ioB 25))) (bC (aC ioB 25)) 3 [] (.ref 536) .none .none (.str "io" 371) none (.ref 542) .none 0)), #[]⟩),
(596,⟨(.type "dict"),none,(.dict #[dE P "__module__" 748 (.str "_io" 753),dE P "__firstlineno__" 752 (.int 203 751),dE P "__init__" 765 (.ref 367),dE P "_StringIO__translated" 774 (.ref 374),dE P "_StringIO__check" 781 (.ref 381),dE P "_StringIO__check_dot" 788 (.ref 388),dE P "_StringIO__line" 803 (.ref 395),dE P "closed" 811 (.ref 403),dE P "line_buffering" 819 (.ref 411),dE P "newlines" 827 (.ref 419),dE P "encoding" 835 (.ref 427),dE P "errors" 843 (.ref 435),dE P "close" 850 (.ref 442),dE P "__enter__" 857 (.ref 449),dE P "__exit__" 865 (.ref 456),dE P "readable" 872 (.ref 463),dE P "writable" 879 (.ref 470),dE P "seekable" 886 (.ref 477),dE P "isatty" 893 (.ref 484),dE P "flush" 900 (.ref 491),dE P "fileno" 907 (.ref 498),dE P "detach" 914 (.ref 505),dE P "getvalue" 921 (.ref 512),dE P "tell" 928 (.ref 519),dE P "seek" 938 (.ref 527),dE P "truncate" 946 (.ref 535),dE P "read" 958 (.ref 543),dE P "readline" 968 (.ref 551),dE P "readlines" 978 (.ref 559),dE P "__iter__" 985 (.ref 566),dE P "__next__" 993 (.ref 573),dE P "write" 1005 (.ref 580),dE P "writelines" 1013 (.ref 587),dE P "__repr__" 1020 (.ref 594),dE P "__static_attributes__" 1024 (.ref 595),dE P "__doc__" 1025 .none] 2), #[]⟩),
(597,⟨(.type "type"),none,(.cls (ClassData.mk "StringIO" [.ref 120] [.ref 597,.ref 120,.ref 93,.type "object"] 596 "StringIO" true [] [] false none false)), #[some (.ref 353),none,some (.str "StringIO" 741),some (.str "StringIO" 749),some .none,some (.bool true)]⟩),
(649,⟨(.type "tuple"),none,(.seq #[.none,.none,.bool false,.bool false]), #[]⟩),
(655,⟨(.type "code"),none,(.fields #[.str "__init__" 1100,.str "shlex.__init__" 1101,.str "/claim/cut.py" 1102,.int 474 0,.int 5 0,.int 0 0,.int 0 0,.int 3 0,.ref 650,.bool true,.int 318 0,.ref 651,.none,.ref 652,.ref 653,.ref 654,.int 1109 0,.int 474 0,.str "/claim/cut.py" 1110]), #[]⟩),
(656,⟨(.type "function"),none,(.func (FuncData.mk "__init__" "shlex.__init__" (bY (aC shB 0)) (.stmts (aO (aC shB 0))) (bC (aC shB 0)) 3 [] (.ref 649) .none .none (.str "cpy313.shlex" 1086) none (.ref 655) .none 0)), #[]⟩),
(662,⟨(.type "code"),none,(.fields #[.str "punctuation_chars" 1112,.str "shlex.punctuation_chars" 1113,.str "/claim/cut.py" 1114,.int 515 0,.int 1 0,.int 0 0,.int 0 0,.int 3 0,.ref 657,.bool true,.int 318 0,.ref 658,.none,.ref 659,.ref 660,.ref 661,.int 1116 0,.int 515 0,.str "/claim/cut.py" 1117]), #[]⟩),
(663,⟨(.type "function"),none,(.func (FuncData.mk "punctuation_chars" "shlex.punctuation_chars" (bY (aC shB 1)) (.stmts (aO (aC shB 1))) (bC (aC shB 1)) 3 [] .none .none .none (.str "cpy313.shlex" 1086) none (.ref 662) .none 0)), #[]⟩),
(664,⟨(.type "property"),none,(.fields #[.ref 663,.none,.none,.none,.str "punctuation_chars" 1119,.bool false]), #[]⟩),
(692,⟨(.type "code"),none,(.fields #[.str "get_token" 1144,.str "shlex.get_token" 1145,.str "/claim/cut.py" 1146,.int 542 0,.int 1 0,.int 0 0,.int 0 0,.int 3 0,.ref 687,.bool true,.int 318 0,.ref 688,.none,.ref 689,.ref 690,.ref 691,.int 1153 0,.int 542 0,.str "/claim/cut.py" 1154]), #[]⟩),
(693,⟨(.type "function"),none,(.func (FuncData.mk "get_token" "shlex.get_token" (bY (aC shB 5)) (.stmts (aO (aC shB 5))) (bC (aC shB 5)) 3 [] .none .none .none (.str "cpy313.shlex" 1086) none (.ref 692) .none 0)), #[]⟩),
(699,⟨(.type "code"),none,(.fields #[.str "read_token" 1156,.str "shlex.read_token" 1157,.str "/claim/cut.py" 1158,.int 569 0,.int 1 0,.int 0 0,.int 0 0,.int 3 0,.ref 694,.bool true,.int 318 0,.ref 695,.none,.ref 696,.ref 697,.ref 698,.int 1164 0,.int 569 0,.str "/claim/cut.py" 1165]), #[]⟩),
(700,⟨(.type "function"),none,(.func (FuncData.mk "read_token" "shlex.read_token" (bY (aC shB 6)) (.stmts (aO (aC shB 6))) (bC (aC shB 6)) 3 [] .none .none .none (.str "cpy313.shlex" 1086) none (.ref 699) .none 0)), #[]⟩),
(721,⟨(.type "code"),none,(.fields #[.str "__iter__" 1184,.str "shlex.__iter__" 1185,.str "/claim/cut.py" 1186,.int 716 0,.int 1 0,.int 0 0,.int 0 0,.int 3 0,.ref 716,.bool true,.int 318 0,.ref 717,.none,.ref 718,.ref 719,.ref 720,.int 1188 0,.int 716 0,.str "/claim/cut.py" 1189]), #[]⟩),
(722,⟨(.type "function"),none,(.func (FuncData.mk "__iter__" "shlex.__iter__" (bY (aC shB 9)) (.stmts (aO (aC shB 9))) (bC (aC shB 9)) 3 [] .none .none .none (.str "cpy313.shlex" 1086) none (.ref 721) .none 0)), #[]⟩),
(728,⟨(.type "code"),none,(.fields #[.str "__next__" 1191,.str "shlex.__next__" 1192,.str "/claim/cut.py" 1193,.int 719 0,.int 1 0,.int 0 0,.int 0 0,.int 3 0,.ref 723,.bool true,.int 318 0,.ref 724,.none,.ref 725,.ref 726,.ref 727,.int 1196 0,.int 719 0,.str "/claim/cut.py" 1197]), #[]⟩),
(729,⟨(.type "function"),none,(.func (FuncData.mk "__next__" "shlex.__next__" (bY (aC shB 10)) (.stmts (aO (aC shB 10))) (bC (aC shB 10)) 3 [] .none .none .none (.str "cpy313.shlex" 1086) none (.ref 728) .none 0)), #[]⟩),
(731,⟨(.type "dict"),none,(.dict #[dE P "__module__" 1095 (.str "cpy313.shlex" 1086),dE P "__firstlineno__" 1099 (.int 472 1098),dE P "__init__" 1111 (.ref 656),dE P "punctuation_chars" 1119 (.ref 664),dE P "push_token" 1127 (.ref 671),dE P "push_source" 1136 (.ref 679),dE P "pop_source" 1143 (.ref 686),dE P "get_token" 1155 (.ref 693),dE P "read_token" 1166 (.ref 700),dE P "sourcehook" 1174 (.ref 707),dE P "error_leader" 1183 (.ref 715),dE P "__iter__" 1190 (.ref 722),dE P "__next__" 1198 (.ref 729),dE P "__static_attributes__" 1219 (.ref 730),dE P "__dict__" 1221 (.ref 733),dE P "__weakref__" 1223 (.ref 734),dE P "__doc__" 1224 .none] 4), #[]⟩),
(732,⟨(.type "type"),none,(.cls (ClassData.mk "shlex" [.type "object"] [.ref 732,.type "object"] 731 "shlex" true [] [] false none false)), #[none,none,some (.str "shlex" 1088),some (.str "shlex" 1096),some (.builtin "object.__new__"),some (.bool true)]⟩),
(737,⟨(.type "tuple"),none,(.seq #[.bool false,.bool true]), #[]⟩),
(743,⟨(.type "code"),none,(.fields #[.str "split" 1227,.str "split" 1228,.str "/claim/cut.py" 1229,.int 724 0,.int 3 0,.int 0 0,.int 0 0,.int 3 0,.ref 738,.bool true,.int 318 0,.ref 739,.none,.ref 740,.ref 741,.ref 742,.int 1234 0,.int 724 0,.str "/claim/cut.py" 1235]), #[]⟩),
(744,⟨(.type "function"),none,(.func (FuncData.mk "split" "split" (bY (aC aR 22)) (.stmts (aO (aC aR 22))) (bC (aC aR 22)) 3 [] (.ref 737) .none .none (.str "cpy313.shlex" 1086) none (.ref 743) .none 0)), #[]⟩),
(745,⟨(.type "builtin_function_or_method"),none,(.fields #[.builtin "re.Pattern.search",.ref 49]), #[]⟩),
(751,⟨(.type "code"),none,(.fields #[.str "quote" 1239,.str "quote" 1240,.str "/claim/cut.py" 1241,.int 733 0,.int 1 0,.int 0 0,.int 0 0,.int 3 0,.ref 746,.bool true,.int 318 0,.ref 747,.none,.ref 748,.ref 749,.ref 750,.int 1243 0,.int 733 0,.str "/claim/cut.py" 1244]), #[]⟩),
(752,⟨(.type "function"),none,(.func (FuncData.mk "quote" "quote" (bY (aC aR 24)) (.stmts (aO (aC aR 24))) (bC (aC aR 24)) 3 [] .none .none .none (.str "cpy313.shlex" 1086) none (.ref 751) .none 0)), #[]⟩),
(754,⟨(.type "dict"),none,(.dict #[dE P "set" 1309 (.int 2 1310)] 1), #[]⟩),
(755,⟨(.type "tuple"),none,(.seq #[.none,.none,.str "set" 1312,.none]), #[]⟩),
(756,⟨(.type "tuple"),none,(.seq #[.int 14 0,.int 4 0,.int 0 0,.int 1 0,.int 4294967295 0,.int 7 0,.int 14 0,.int 17 0,.int 0 0,.int 24 0,.int 6 0,.int 1 0,.int 4294967295 0,.int 20 0,.int 91 0,.int 1 0,.int 17 0,.int 1 0,.int 15 0,.int 37 0,.int 17 0,.int 17 0,.int 2 0,.int 16 0,.int 91 0,.int 26 0,.int 5 0,.int 0 0,.int 4294967295 0,.int 2 0,.int 1 0,.int 16 0,.int 93 0,.int 17 0,.int 3 0,.int 15 0,.int 20 0,.int 18 0,.int 17 0,.int 4 0,.int 16 0,.int 91 0,.int 24 0,.int 6 0,.int 0 0,.int 4294967295 0,.int 20 0,.int 93 0,.int 1 0,.int 6 0,.int 5 0,.int 17 0,.int 5 0,.int 15 0,.int 2 0,.int 0 0,.int 1 0]), #[]⟩),
(757,⟨(.type "re.Pattern"),none,(.fields #[.str "([^\\[]+)|(?P<set>[\\[].*?[\\]])|([\\[][^\\]]*$)" 1249,.int 32 1313,.int 3 0,.ref 754,.ref 755,.ref 756,.int 0 0]), #[]⟩),
(763,⟨(.type "code"),none,(.fields #[.str "separate" 1315,.str "separate" 1316,.str "/claim/cut.py" 1317,.int 741 0,.int 1 0,.int 0 0,.int 0 0,.int 3 0,.ref 758,.bool true,.int 318 0,.ref 759,.none,.ref 760,.ref 761,.ref 762,.int 1319 0,.int 741 0,.str "/claim/cut.py" 1320]), #[]⟩),
(764,⟨(.type "function"),none,(.func (FuncData.mk "separate" "separate" (bY (aC aR 27)) (.stmts (aO (aC aR 27))) (bC (aC aR 27)) 3 [] .none .none .none (.str "cpy313.zipfile._path.glob" 1246) none (.ref 763) .none 0)), #[]⟩),
(770,⟨(.type "code"),none,(.fields #[.str "_law_patterns" 1324,.str "_law_patterns" 1325,.str "/claim/cut.py" 1326,.int 744 0,.int 1 0,.int 0 0,.int 0 0,.int 3 0,.ref 765,.bool true,.int 318 0,.ref 766,.none,.ref 767,.ref 768,.ref 769,.int 1334 0,.int 744 0,.str "/claim/cut.py" 1335]), #[]⟩),
(771,⟨(.type "function"),none,(.func (FuncData.mk "_law_patterns" "_law_patterns" (bY (aC aR 29)) (.stmts (aO (aC aR 29))) (bC (aC aR 29)) 3 [] .none .none .none (.str "law_mq0379_01" 1322) none (.ref 770) .none 0)), #[]⟩),
(777,⟨(.type "code"),none,(.fields #[.str "_law_written" 1337,.str "_law_written" 1338,.str "/claim/cut.py" 1339,.int 759 0,.int 1 0,.int 0 0,.int 0 0,.int 3 0,.ref 772,.bool true,.int 318 0,.ref 773,.none,.ref 774,.ref 775,.ref 776,.int 1344 0,.int 759 0,.str "/claim/cut.py" 1345]), #[]⟩),
(778,⟨(.type "function"),none,(.func (FuncData.mk "_law_written" "_law_written" (bY (aC aR 30)) (.stmts (aO (aC aR 30))) (bC (aC aR 30)) 3 [] .none .none .none (.str "law_mq0379_01" 1322) none (.ref 777) .none 0)), #[]⟩),
(784,⟨(.type "code"),none,(.fields #[.str "_law_read" 1347,.str "_law_read" 1348,.str "/claim/cut.py" 1349,.int 770 0,.int 1 0,.int 0 0,.int 0 0,.int 3 0,.ref 779,.bool true,.int 318 0,.ref 780,.none,.ref 781,.ref 782,.ref 783,.int 1354 0,.int 770 0,.str "/claim/cut.py" 1355]), #[]⟩),
(785,⟨(.type "function"),none,(.func (FuncData.mk "_law_read" "_law_read" (bY (aC aR 31)) (.stmts (aO (aC aR 31))) (bC (aC aR 31)) 3 [] .none .none .none (.str "law_mq0379_01" 1322) none (.ref 784) .none 0)), #[]⟩),
(791,⟨(.type "code"),none,(.fields #[.str "_law_meant" 1357,.str "_law_meant" 1358,.str "/claim/cut.py" 1359,.int 778 0,.int 1 0,.int 0 0,.int 0 0,.int 3 0,.ref 786,.bool true,.int 318 0,.ref 787,.none,.ref 788,.ref 789,.ref 790,.int 1365 0,.int 778 0,.str "/claim/cut.py" 1366]), #[]⟩),
(792,⟨(.type "function"),none,(.func (FuncData.mk "_law_meant" "_law_meant" (bY (aC aR 32)) (.stmts (aO (aC aR 32))) (bC (aC aR 32)) 3 [] .none .none .none (.str "law_mq0379_01" 1322) none (.ref 791) .none 0)), #[]⟩),
(798,⟨(.type "code"),none,(.fields #[.str "_law_tokens" 1368,.str "_law_tokens" 1369,.str "/claim/cut.py" 1370,.int 790 0,.int 1 0,.int 0 0,.int 0 0,.int 3 0,.ref 793,.bool true,.int 318 0,.ref 794,.none,.ref 795,.ref 796,.ref 797,.int 1379 0,.int 790 0,.str "/claim/cut.py" 1380]), #[]⟩),
(799,⟨(.type "function"),none,(.func (FuncData.mk "_law_tokens" "_law_tokens" (bY (aC aR 33)) (.stmts (aO (aC aR 33))) (bC (aC aR 33)) 3 [] .none .none .none (.str "law_mq0379_01" 1322) none (.ref 798) .none 0)), #[]⟩),
(803,⟨(.type "code"),none,(.fields #[.str "law" 1382,.str "law" 1383,.str "/claim/cut.py" 1384,.int 806 0,.int 1 0,.int 0 0,.int 0 0,.int 3 0,.ref 800,.bool true,.int 318 0,.ref 801,.none,.none,.none,.ref 802,.int 1385 0,.int 806 0,.str "/claim/cut.py" 1386]), #[]⟩),
(804,⟨(.type "function"),none,(.func (FuncData.mk "law" "law" (bY (aC aR 34)) (.stmts (aO (aC aR 34))) (bC (aC aR 34)) 3 [] .none .none .none (.str "law_mq0379_01" 1322) none (.ref 803) .none 0)), #[]⟩)
]
end Mine
end
section
namespace Mine
noncomputable section
noncomputable def aHm (ok:Thread→Bool) (stp:SharedT→Thread→Option (SharedT×Thread)):Nat→SharedT→Thread→Option SharedT
 |0,_,_=>none
 |n+1,s,t=>match through t with
  |true=>some s
  |false=>match ok t with
   |false=>none
   |true=>match stp s t with
    |some (s',t')=>aHm ok stp n s' t'
    |none=>none
theorem aFz {tb:String→Option Builtin} {p:Program} {w:World} {n₀:Nat} {ann:Option Value}:∀(n:Nat) (s s':SharedT) (t:Thread),aHm (stepOk n₀ ann) (stepT (denote tb) p w) n s t=some s'→topRun tb p w n₀ ann n s.abs t=some s'.abs
 |0,_,_,_,h=>by cases h
 |n+1,s,s',t,h=>by
  unfold aHm at h
  unfold topRun
  cases ht:through t with
  |true=>rw [ht]at h;cases h;rfl
  |false=>
   rw [ht]at h
   cases hk:stepOk n₀ ann t with
   |false=>rw [hk]at h;cases h
   |true=>
    rw [hk]at h
    cases hs:stepT (denote tb) p w s t with
    |none=>rw [hs]at h;cases h
    |some r=>
     obtain⟨s₂,t₂⟩:=r
     rw [hs]at h
     rw [stepT_spec hs]
     exact aFz n s₂ s' t₂ h
noncomputable def vS:BT→Nat→List Obj→BT
 |t,_,[]=>t
 |t,n,o::r=>vS (t.ins n o) (n+1) r
noncomputable def qB:BT→Nat→List Obj→Bool
 |_,_,[]=>true
 |t,n,o::r=>((t.ins n o).get n).isSome&&qB (t.ins n o) (n+1) r
theorem vR {life:Life}:∀(l:List Obj) (t:BT) (n:Nat),qB t n l=true→absHeap (vS t n l) (n+l.length) life=⟨((absHeap t n life).objs.toList++l).toArray,life⟩
 |[],t,n,_=>by simp [vS,absHeap]
 |o::r,t,n,h=>by
  unfold qB at h
  rw [Bool.and_eq_true]at h
  have e:=absHeap_ins (life:=life) h.1
  have:=vR (life:=life) r (t.ins n o) (n+1) h.2
  rw [e]at this
  rw [vS,List.length_cons,show n+(r.length+1)=n+1+r.length from by omega,this]
  unfold Heap.push
  simp
noncomputable def toT (s:Shared):SharedT:=⟨vS .nil 0 s.heap.objs.toList,s.heap.objs.size,s.heap.life,s.gens,s.drawn,s.toks,s.os⟩
theorem aMv {s:Shared} (h:qB .nil 0 s.heap.objs.toList=true):(toT s).abs=s:=by
 have:=vR (life:=s.heap.life) s.heap.objs.toList .nil 0 h
 rw [Nat.zero_add,Array.length_toList]at this
 unfold SharedT.abs toT
 rw [this]
 obtain⟨⟨objs,life⟩,gens,drawn,toks,os⟩:=s
 simp [absHeap,BT.list]
noncomputable def aCp (run:Nat→Option Value→SharedT→Option SharedT) (s₀:Shared) (p:Program):Option Shared:=
 match(s₀.heap.isNs mainGlobals&&s₀.gens.size==0)&&qB .nil 0 s₀.heap.objs.toList with
 |true=>(run s₀.heap.objs.size (s₀.heap.nsMap mainGlobals "__annotations__") (toT s₀)).bind fun s₁=>
  match staticsOk (importedModules p.main.body) s₀.heap s₁.abs.heap&&namesBound p s₁.abs.heap&&gensDone s₁.abs&&laidKept s₀.heap s₁.abs.heap with
  |true=>some s₁.abs
  |false=>none
 |false=>none
theorem aLr {tb:String→Option Builtin} {p:Program} {w:World} {N:Nat} {s:Shared} (h:(fencedOpening tb p w N).bind (fun s₀=>aCp (fun n₀ ann s=>aHm (stepOk n₀ ann) (stepT (denote tb) p w) N s (topStub p)) s₀ p)=some s):openEnds tb p w N=some s:=by
 unfold openEnds
 cases e:fencedOpening tb p w N with
 |none=>rw [e]at h;cases h
 |some s₀=>
  rw [e]at h
  show topFrom tb p w N s₀=some s
  rw [Option.bind_some]at h
  unfold aCp at h
  unfold topFrom
  cases c:(s₀.heap.isNs mainGlobals&&s₀.gens.size==0)&&qB .nil 0 s₀.heap.objs.toList with
  |false=>rw [c]at h;cases h
  |true=>
   rw [c]at h
   obtain⟨c1,c2⟩:=Bool.and_eq_true_iff.mp c
   rw [c1]
   obtain⟨s₁,h1,h2⟩:=Option.bind_eq_some_iff.mp h
   have:=aFz _ _ _ _ h1
   rw [aMv c2]at this
   dsimp only
   rw [this]
   exact h2
end
end Mine
end
section
namespace Mine
noncomputable section
noncomputable def pC (w:World):Option Shared:=
 (PySem.W.Fast.tw10274390034422433532 PySem.W.Fast.tw14364793385576792824 (opening P0) w 10562 (PySem.W.Fast.tw1435165496053646825 (opening P0)).1 (PySem.W.Fast.tw1435165496053646825 (opening P0)).2).bind (PySem.W.Fast.tw14289696077712309145 P0)
noncomputable def aKx (w:World) (n₀:Nat) (ann:Option Value) (s:SharedT):Option SharedT:=
 aHm (PySem.W.Fast.tw6613529449190102663 n₀ ann) (PySem.W.Fast.tw10156331382660048174 (PySem.W.Fast.tw11892475500146522536 PySem.W.Fast.tw14364793385576792824) P0 w) 10562 s (topStub P0)
noncomputable def qV:Program:=view P0 [0,1,2,3,5,6,7,8,9,10,11,12,14,15,16,17,18,19,21,23,24,26,27,29,30,31,32,33,34]
noncomputable def looseV:List Str:=["twin_re_1_shlex","UnsupportedOperation","IOBase","BufferedIOBase","TextIOBase","BytesIO","StringIO","shlex","split","_find_unsafe","twin_re_1_glob"]
end
end Mine
end
section
namespace Mine
noncomputable section
noncomputable def asK:List Addr:=[2,3,43,44,48,49,62,63,89,90,92,93,94,107,108,119,120,349,350,360,366,367,373,374,380,381,536,542,543,596,597,649,655,656,662,663,664,692,693,699,700,721,722,728,729,731,732,737,743,744,745,751,752,754,755,756,757,763,764,770,771,777,778,784,785,791,792,798,799,803,804]
theorem asK_eq:∀P,asK=(KK P).map (·.1):=fun zz=>by kernel_rfl
theorem rF:∀w:World,((pC (w.withFollow "special-get-raises" false)).bind fun s₀=>aCp (aKx (w.withFollow "special-get-raises" false)) s₀ P0).map (fun s=>(PySem.W.Fast.tw4187177175401517315 qV looseV (importedModules P0.main.body) (fun zz=>true) true s,asK.map s.heap.get?))=some (openGood qV looseV,(KK w.params).map fun p=>some p.2):=fun w=>by kernel_rfl
theorem rT:∀w:World,((pC (w.withFollow "special-get-raises" true)).bind fun s₀=>aCp (aKx (w.withFollow "special-get-raises" true)) s₀ P0).map (fun s=>(PySem.W.Fast.tw4187177175401517315 qV looseV (importedModules P0.main.body) (fun zz=>true) true s,asK.map s.heap.get?))=some (openGood qV looseV,(KK w.params).map fun p=>some p.2):=fun w=>by kernel_rfl
end
end Mine
end
section
namespace Mine
noncomputable section
theorem aLn (w:World):fencedOpening treeTable P0 w 10562=pC w:=by
 unfold fencedOpening pC
 rw [PySem.W.Fast.te10274390034422433532,PySem.W.Fast.te14364793385576792824,PySem.W.Fast.te1435165496053646825,PySem.W.Fast.te14289696077712309145]
theorem aR9 (w:World):(fun n₀ ann s=>aHm (stepOk n₀ ann) (stepT (denote treeTable) P0 w) 10562 s (topStub P0))=aKx w:=by
 funext n₀ ann s
 unfold aKx
 rw [PySem.W.Fast.te6613529449190102663,PySem.W.Fast.te10156331382660048174,PySem.W.Fast.te11892475500146522536,PySem.W.Fast.te14364793385576792824]
noncomputable abbrev topY:Shared→List (Option Obj):=fun s=>asK.map s.heap.get?
noncomputable abbrev topA:World→List (Option Obj):=fun w=>(KK w.params).map fun p=>some p.2
theorem aLj {w v:World} (h:((pC w).bind fun s₀=>aCp (aKx w) s₀ P0).map (fun s=>(PySem.W.Fast.tw4187177175401517315 qV looseV (importedModules P0.main.body) (fun zz=>true) true s,asK.map s.heap.get?))=some (openGood qV looseV,(KK v.params).map fun p=>some p.2)):
  (openEnds treeTable P0 w 10562).map (fun s=>(openSeen qV looseV (importedModules P0.main.body) (fun zz=>true) true s,topY s))=some (openGood qV looseV,topA v):=by
 obtain⟨s,h1,h2⟩:=Option.map_eq_some_iff.mp h
 rw [←aLn,←aR9]at h1
 rw [aLr h1,PySem.W.Fast.te4187177175401517315]
 exact congrArg some h2
theorem left_top:LeftO P0 qV looseV (fun zz=>true) topY topA 10562:=fun w=>by
 have e:=World.withFollow_self w "special-get-raises"
 cases hb:w.params.followText "special-get-raises"with
 |false=>
  rw [hb]at e
  have:=aLj (rF w)
  rw [e]at this
  exact this
 |true=>
  rw [hb]at e
  have:=aLj (rT w)
  rw [e]at this
  exact this
end
end Mine
end
section
namespace Mine
set_option maxHeartbeats 8000000 in
theorem said:PySem.Challenge.rw_mq0379_01.wellSaid=true:=by
 unfold OpenLaw.wellSaid OpenRow.wellSaid OpenRow.partSaid looksOpen
 repeat' (with_reducible refine look_both ?_ ?_)
 all_goals decide+kernel
end Mine
end
section
namespace Mine
theorem cK {A B:Prop} {G:Prop} (h:A∧B) (k:A→B→G):G:=by obtain⟨p0,p1⟩:=h;exact k p0 p1
theorem rS {A B C:Prop} {G:Prop} (h:A∧B∧C) (k:A→B→C→G):G:=by obtain⟨p0,p1,p2⟩:=h;exact k p0 p1 p2
theorem vW {A B C D:Prop} {G:Prop} (h:A∧B∧C∧D) (k:A→B→C→D→G):G:=by obtain⟨p0,p1,p2,p3⟩:=h;exact k p0 p1 p2 p3
theorem aJx {A B C D E:Prop} {G:Prop} (h:A∧B∧C∧D∧E) (k:A→B→C→D→E→G):G:=by obtain⟨p0,p1,p2,p3,p4⟩:=h;exact k p0 p1 p2 p3 p4
theorem cB {α:Type _} {A:α→Prop} {G:Prop} (h:∃a,A a) (k:∀a,A a→G):G:=by obtain⟨a,p0⟩:=h;exact k a p0
theorem aH {α:Type _} {A B:α→Prop} {G:Prop} (h:∃a,A a∧B a) (k:∀a,A a→B a→G):G:=by obtain⟨a,p0,p1⟩:=h;exact k a p0 p1
theorem iR {α:Type _} {A B C:α→Prop} {G:Prop} (h:∃a,A a∧B a∧C a) (k:∀a,A a→B a→C a→G):G:=by obtain⟨a,p0,p1,p2⟩:=h;exact k a p0 p1 p2
theorem aQs {α:Type _} {A B C D:α→Prop} {G:Prop} (h:∃a,A a∧B a∧C a∧D a) (k:∀a,A a→B a→C a→D a→G):G:=by obtain⟨a,p0,p1,p2,p3⟩:=h;exact k a p0 p1 p2 p3
theorem aS8 {α:Type _} {A B C D E:α→Prop} {G:Prop} (h:∃a,A a∧B a∧C a∧D a∧E a) (k:∀a,A a→B a→C a→D a→E a→G):G:=by obtain⟨a,p0,p1,p2,p3,p4⟩:=h;exact k a p0 p1 p2 p3 p4
theorem aQr {α:Type _} {A B C D E F:α→Prop} {G:Prop} (h:∃a,A a∧B a∧C a∧D a∧E a∧F a) (k:∀a,A a→B a→C a→D a→E a→F a→G):G:=by obtain⟨a,p0,p1,p2,p3,p4,p5⟩:=h;exact k a p0 p1 p2 p3 p4 p5
theorem aQq {α:Type _} {A B C D E F H:α→Prop} {G:Prop} (h:∃a,A a∧B a∧C a∧D a∧E a∧F a∧H a) (k:∀a,A a→B a→C a→D a→E a→F a→H a→G):G:=by obtain⟨a,p0,p1,p2,p3,p4,p5,p6⟩:=h;exact k a p0 p1 p2 p3 p4 p5 p6
theorem iK {α β:Type _} {A:α→β→Prop} {G:Prop} (h:∃a b,A a b) (k:∀a b,A a b→G):G:=by obtain⟨a,b,p0⟩:=h;exact k a b p0
theorem fL {α β:Type _} {A B:α→β→Prop} {G:Prop} (h:∃a b,A a b∧B a b) (k:∀a b,A a b→B a b→G):G:=by obtain⟨a,b,p0,p1⟩:=h;exact k a b p0 p1
theorem kK {α β:Type _} {A B C:α→β→Prop} {G:Prop} (h:∃a b,A a b∧B a b∧C a b) (k:∀a b,A a b→B a b→C a b→G):G:=by obtain⟨a,b,p0,p1,p2⟩:=h;exact k a b p0 p1 p2
theorem aP4 {α β:Type _} {A B C D:α→β→Prop} {G:Prop} (h:∃a b,A a b∧B a b∧C a b∧D a b) (k:∀a b,A a b→B a b→C a b→D a b→G):G:=by obtain⟨a,b,p0,p1,p2,p3⟩:=h;exact k a b p0 p1 p2 p3
theorem aS7 {α β:Type _} {A B C D E F H I:α→β→Prop} {G:Prop} (h:∃a b,A a b∧B a b∧C a b∧D a b∧E a b∧F a b∧H a b∧I a b) (k:∀a b,A a b→B a b→C a b→D a b→E a b→F a b→H a b→I a b→G):G:=by obtain⟨a,b,p0,p1,p2,p3,p4,p5,p6,p7⟩:=h;exact k a b p0 p1 p2 p3 p4 p5 p6 p7
theorem aH9 {α β γ:Type _} {A:α→β→γ→Prop} {G:Prop} (h:∃a b c,A a b c) (k:∀a b c,A a b c→G):G:=by obtain⟨a,b,c,p0⟩:=h;exact k a b c p0
theorem nX {α β γ:Type _} {A B:α→β→γ→Prop} {G:Prop} (h:∃a b c,A a b c∧B a b c) (k:∀a b c,A a b c→B a b c→G):G:=by obtain⟨a,b,c,p0,p1⟩:=h;exact k a b c p0 p1
theorem aJw {α β γ:Type _} {A B C:α→β→γ→Prop} {G:Prop} (h:∃a b c,A a b c∧B a b c∧C a b c) (k:∀a b c,A a b c→B a b c→C a b c→G):G:=by obtain⟨a,b,c,p0,p1,p2⟩:=h;exact k a b c p0 p1 p2
theorem yT {α β γ:Type _} {A B C D:α→β→γ→Prop} {G:Prop} (h:∃a b c,A a b c∧B a b c∧C a b c∧D a b c) (k:∀a b c,A a b c→B a b c→C a b c→D a b c→G):G:=by obtain⟨a,b,c,p0,p1,p2,p3⟩:=h;exact k a b c p0 p1 p2 p3
theorem gP {α β γ:Type _} {A B C D E:α→β→γ→Prop} {G:Prop} (h:∃a b c,A a b c∧B a b c∧C a b c∧D a b c∧E a b c) (k:∀a b c,A a b c→B a b c→C a b c→D a b c→E a b c→G):G:=by obtain⟨a,b,c,p0,p1,p2,p3,p4⟩:=h;exact k a b c p0 p1 p2 p3 p4
theorem aQp {α β γ:Type _} {A B C D E F:α→β→γ→Prop} {G:Prop} (h:∃a b c,A a b c∧B a b c∧C a b c∧D a b c∧E a b c∧F a b c) (k:∀a b c,A a b c→B a b c→C a b c→D a b c→E a b c→F a b c→G):G:=by obtain⟨a,b,c,p0,p1,p2,p3,p4,p5⟩:=h;exact k a b c p0 p1 p2 p3 p4 p5
theorem aJv {α β γ δ:Type _} {A:α→β→γ→δ→Prop} {G:Prop} (h:∃a b c d,A a b c d) (k:∀a b c d,A a b c d→G):G:=by obtain⟨a,b,c,d,p0⟩:=h;exact k a b c d p0
theorem yS {α β γ δ:Type _} {A B:α→β→γ→δ→Prop} {G:Prop} (h:∃a b c d,A a b c d∧B a b c d) (k:∀a b c d,A a b c d→B a b c d→G):G:=by obtain⟨a,b,c,d,p0,p1⟩:=h;exact k a b c d p0 p1
theorem aQo {α β γ δ:Type _} {A B C:α→β→γ→δ→Prop} {G:Prop} (h:∃a b c d,A a b c d∧B a b c d∧C a b c d) (k:∀a b c d,A a b c d→B a b c d→C a b c d→G):G:=by obtain⟨a,b,c,d,p0,p1,p2⟩:=h;exact k a b c d p0 p1 p2
theorem aP3 {α β γ δ:Type _} {A B C D:α→β→γ→δ→Prop} {G:Prop} (h:∃a b c d,A a b c d∧B a b c d∧C a b c d∧D a b c d) (k:∀a b c d,A a b c d→B a b c d→C a b c d→D a b c d→G):G:=by obtain⟨a,b,c,d,p0,p1,p2,p3⟩:=h;exact k a b c d p0 p1 p2 p3
theorem nW {α β γ δ:Type _} {A B C D E F:α→β→γ→δ→Prop} {G:Prop} (h:∃a b c d,A a b c d∧B a b c d∧C a b c d∧D a b c d∧E a b c d∧F a b c d) (k:∀a b c d,A a b c d→B a b c d→C a b c d→D a b c d→E a b c d→F a b c d→G):G:=by obtain⟨a,b,c,d,p0,p1,p2,p3,p4,p5⟩:=h;exact k a b c d p0 p1 p2 p3 p4 p5
theorem vV {α β γ δ ε:Type _} {A:α→β→γ→δ→ε→Prop} {G:Prop} (h:∃a b c d e,A a b c d e) (k:∀a b c d e,A a b c d e→G):G:=by obtain⟨a,b,c,d,e,p0⟩:=h;exact k a b c d e p0
theorem aJu {α β γ δ ε:Type _} {A B:α→β→γ→δ→ε→Prop} {G:Prop} (h:∃a b c d e,A a b c d e∧B a b c d e) (k:∀a b c d e,A a b c d e→B a b c d e→G):G:=by obtain⟨a,b,c,d,e,p0,p1⟩:=h;exact k a b c d e p0 p1
theorem aH8 {α β γ δ ε:Type _} {A B C:α→β→γ→δ→ε→Prop} {G:Prop} (h:∃a b c d e,A a b c d e∧B a b c d e∧C a b c d e) (k:∀a b c d e,A a b c d e→B a b c d e→C a b c d e→G):G:=by obtain⟨a,b,c,d,e,p0,p1,p2⟩:=h;exact k a b c d e p0 p1 p2
theorem aS6 {α β γ δ ε:Type _} {A B C D E:α→β→γ→δ→ε→Prop} {G:Prop} (h:∃a b c d e,A a b c d e∧B a b c d e∧C a b c d e∧D a b c d e∧E a b c d e) (k:∀a b c d e,A a b c d e→B a b c d e→C a b c d e→D a b c d e→E a b c d e→G):G:=by obtain⟨a,b,c,d,e,p0,p1,p2,p3,p4⟩:=h;exact k a b c d e p0 p1 p2 p3 p4
theorem aS5 {α β γ δ ε ζ:Type _} {A:α→β→γ→δ→ε→ζ→Prop} {G:Prop} (h:∃a b c d e f,A a b c d e f) (k:∀a b c d e f,A a b c d e f→G):G:=by obtain⟨a,b,c,d,e,f,p0⟩:=h;exact k a b c d e f p0
theorem aS4 {α β γ δ ε ζ:Type _} {A B:α→β→γ→δ→ε→ζ→Prop} {G:Prop} (h:∃a b c d e f,A a b c d e f∧B a b c d e f) (k:∀a b c d e f,A a b c d e f→B a b c d e f→G):G:=by obtain⟨a,b,c,d,e,f,p0,p1⟩:=h;exact k a b c d e f p0 p1
theorem aMg {α β γ δ ε ζ:Type _} {A B C D:α→β→γ→δ→ε→ζ→Prop} {G:Prop} (h:∃a b c d e f,A a b c d e f∧B a b c d e f∧C a b c d e f∧D a b c d e f) (k:∀a b c d e f,A a b c d e f→B a b c d e f→C a b c d e f→D a b c d e f→G):G:=by obtain⟨a,b,c,d,e,f,p0,p1,p2,p3⟩:=h;exact k a b c d e f p0 p1 p2 p3
theorem aQn {α β γ δ ε ζ η:Type _} {A B:α→β→γ→δ→ε→ζ→η→Prop} {G:Prop} (h:∃a b c d e f g,A a b c d e f g∧B a b c d e f g) (k:∀a b c d e f g,A a b c d e f g→B a b c d e f g→G):G:=by obtain⟨a,b,c,d,e,f,g,p0,p1⟩:=h;exact k a b c d e f g p0 p1
theorem aS3 {α β γ δ ε ζ η:Type _} {A B C:α→β→γ→δ→ε→ζ→η→Prop} {G:Prop} (h:∃a b c d e f g,A a b c d e f g∧B a b c d e f g∧C a b c d e f g) (k:∀a b c d e f g,A a b c d e f g→B a b c d e f g→C a b c d e f g→G):G:=by obtain⟨a,b,c,d,e,f,g,p0,p1,p2⟩:=h;exact k a b c d e f g p0 p1 p2
theorem aQm {α β γ δ ε ζ η:Type _} {A B C D:α→β→γ→δ→ε→ζ→η→Prop} {G:Prop} (h:∃a b c d e f g,A a b c d e f g∧B a b c d e f g∧C a b c d e f g∧D a b c d e f g) (k:∀a b c d e f g,A a b c d e f g→B a b c d e f g→C a b c d e f g→D a b c d e f g→G):G:=by obtain⟨a,b,c,d,e,f,g,p0,p1,p2,p3⟩:=h;exact k a b c d e f g p0 p1 p2 p3
theorem aF {p:Prop} (h:∀q:Prop,q=p→q):p:=h p rfl
noncomputable def aMd (l:List Value):Bool:=match l with
 |[]=>false
 |v::r=>match r with
  |_::_=>false
  |[]=>match v with
   | .int i _=>i==13
   |_=>false
noncomputable def rC (c:Code):Bool:=match c with
 | .builtin id args=>id=="gc.ask"&&(args.kw.isEmpty&&aMd args.pos)
 |_=>false
noncomputable def hG (c:Code):Sem Fin:=if rC c then ret (.bool false)else denote table c
noncomputable def aP (prog:Program) (w:World):Model:=⟨hG,prog,w⟩
theorem aMc {l:List Value} (h:aMd l=true):∃t,l=[.int 13 t]:=by
 cases l with
 |nil=>exact nomatch h
 |cons v r=>cases r with
  |cons _ _=>exact nomatch h
  |nil=>cases v with
   |int i t=>exact⟨t,by rw [show i=13 from eq_of_beq h]⟩
   |_=>exact nomatch h
theorem aCg {c:Code} (h:rC c=true):∃t,c= .builtin "gc.ask" ⟨[.int 13 t],[]⟩:=by
 cases c with
 |builtin id args=>
  obtain⟨ps,kw⟩:=args
  have h:(id=="gc.ask"&&(kw.isEmpty&&aMd ps))=true:=h
  rw [Bool.and_eq_true,Bool.and_eq_true]at h
  obtain⟨t,rfl⟩:=aMc h.2.2
  exact⟨t,by rw [eq_of_beq h.1,List.isEmpty_iff.mp h.2.1]⟩
 |_=>exact nomatch h
theorem aJd:entryFor table "gc.ask"=some Builtin.«gc.ask»:=entryFor_of_tree (by kernel_rfl)
theorem vA {id:String} {args:Args} {b:Builtin} (hb:entryFor table id=some b):denote table (.builtin id args)=b args:=by
 show(match entryFor table id with|some b=>b args|none=>unsupported ((withoutEnding? id "#data").getD id))=_
 rw [hb]
theorem aGw {c:Code} (h:rC c=true):∃t,denote table c= .pure (.again (.builtin "lifetime.ask" ⟨[.int 13 t],[]⟩)):=by
 refine cB (aCg h) fun t q1_=> ?_;subst q1_
 exact⟨t,(vA aJd).trans rfl⟩
theorem aA6 {c:Code} (h:rC c=false):hG c=denote table c:=by unfold hG;rw [h];rfl
theorem aCw {c:Code} (h:rC c=true):hG c= .pure (.done (.ret (.bool false))):=by unfold hG;rw [h];rfl
noncomputable def aNd (fs:List Frame) (t:Sem Fin):Prop:=match fs with
 |_::_=>True
 |[]=>match t with
  | .pure f=>match f with
   | .again c=>c.quiet=true
   | .done _=>True
  |_=>True
theorem aL3 {M:Model} {Γ:Ctx} {p:Pos} {t:Sem Fin} {fs:List Frame} {s s':Shared} {e:End} (h:Runs M Γ p t fs s e s'):aNd fs t:=by
 induction h<;>first|exact trivial|assumption
theorem aPx {M:Model} {Γ:Ctx} {p:Pos} {args:Args} {s s':Shared} {e:End} (h:Runs M Γ p (.pure (.again (.builtin "lifetime.ask" args))) [] s e s'):False:=by
 have h:(Code.builtin "lifetime.ask" args).quiet=true:=aL3 h
 rw [show(Code.builtin "lifetime.ask" args).quiet=false from by kernel_rfl]at h
 cases h
theorem iV {prog:Program} {w:World} {Γ:Ctx} {p:Pos} {c:Code} {s s':Shared} {e:End} (h:Runs (model prog w) Γ p ((model prog w).den c) [] s e s')
  (h':Runs (aP prog w) Γ p ((model prog w).den c) [] s e s'):Runs (aP prog w) Γ p ((aP prog w).den c) [] s e s':=by
 cases q:rC c with
 |false=>show Runs _ _ _ (hG c) _ _ _ _;rw [aA6 q];exact h'
 |true=>
  refine cB (aGw q) fun t ht=> ?_
  have h:Runs (model prog w) Γ p (denote table c) [] s e s':=h
  rw [ht]at h
  exact(aPx h).elim
theorem zG {prog:Program} {w:World} {Γ:Ctx} {p:Pos} {t:Sem Fin} {fs:List Frame} {s s':Shared} {e:End} (h:Runs (model prog w) Γ p t fs s e s'):Runs (aP prog w) Γ p t fs s e s':=by
 induction h with
 |done=>exact .done
 |raise=>exact .raise
 |again hq hr ih=>exact .again hq (iV hr ih)
 |rule _ ih=>exact .rule ih
 |«at» _ ih=>exact .at ih
 |load ho _ ih=>exact .load ho ih
 |update ho _ ih=>exact .update ho ih
 |loadIfAlive _ ih=>exact .loadIfAlive ih
 |point _ ih=>exact .point ih
 |alloc _ ih=>exact .alloc ih
 |fresh _ ih=>exact .fresh ih
 |ask _ ih=>exact .ask ih
 |choose hn _ ih=>exact .choose hn ih
 |os _ ih=>exact .os ih
 |handled _ ih=>exact .handled ih
 |genState hg _ ih=>exact .genState hg ih
 |stack _ ih=>exact .stack ih
 |thread _ ih=>exact .thread ih
 |newGen _ ih=>exact .newGen ih
 |call hr _ ih1 ih2=>exact .call (iV hr ih1) ih2
 |callSusp hr ih=>exact .callSusp (iV hr ih)
 |yield=>exact .yield
 |resumeFresh hg hr hq _ ih1 ih2=>exact .resumeFresh hg (iV hr ih1) hq ih2
 |resumeSuspended hg _ hq _ ih1 ih2=>exact .resumeSuspended hg ih1 hq ih2
 |resumeJustStarted hg hv _ ih=>exact .resumeJustStarted hg hv ih
 |resumeThrowFresh hg _ ih=>exact .resumeThrowFresh hg ih
 |resumeRunning hg _ ih=>exact .resumeRunning hg ih
 |resumeFinished hg _ ih=>exact .resumeFinished hg ih
 |segRet _ _ ih1 ih2=>exact .segRet ih1 ih2
 |segGen _ _ ih1 ih2=>exact .segGen ih1 ih2
 |segSuspOut hs _ ih=>exact .segSuspOut hs ih
 |segSuspGen hs _ hq _ ih1 ih2=>exact .segSuspGen hs ih1 hq ih2
theorem tE {prog:Program} {w:World} {Γ:Ctx} {p:Pos} {s s':Shared} {r:Result} (h:Returns (model prog w) Γ p s r s'):Returns (aP prog w) Γ p s r s':=
 iV h (zG h)
theorem aO1 {prog:Program} {w:World} {Γ:Ctx} {p:Pos} {s:Shared} {R:Result→Shared→Prop} (h:wpCode (model prog w) Γ R p s):wpCode (aP prog w) Γ R p s:=
 let ⟨r,s',a,b⟩:=h;⟨r,s',tE a,b⟩
theorem aK1 {prog:Program} {w:World} {Γ:Ctx} {p:Pos} {g:Nat} {r:Resume} {s s':Shared} {res:GenResult} (h:Wakes (model prog w) Γ p g r s res s'):Wakes (aP prog w) Γ p g r s res s':=by
 unfold Wakes at h⊢
 split at h
 ·exact h
 ·split at h
  ·refine fL h fun e₁ s₁ a b=> ?_
   exact⟨e₁,s₁,iV a (zG a),b⟩
  ·exact h
  ·exact h
 ·refine fL h fun e₁ s₁ a b=> ?_
  exact⟨e₁,s₁,zG a,b⟩
 ·exact h
 ·exact h
theorem aQt {α:Type} {prog:Program} {w:World} {Γ:Ctx} {Q:α→Pos→Shared→Prop} {E:Value→Pos→Shared→Prop} (t:Sem α):
  ∀(p:Pos) (s:Shared),Sem.wp (model prog w) Γ t Q E p s→Sem.wp (aP prog w) Γ t Q E p s:=by
 induction t with
 |pure a=>intro p s h;rw [Sem.wp]at h⊢;exact h
 |raise e=>intro p s h;rw [Sem.wp]at h⊢;exact h
 |unsupported w=>intro p s h;rw [Sem.wp]at h;exact h.elim
 |finish e=>intro p s h;rw [Sem.wp]at h;exact h.elim
 |rule tag k ih=>intro p s h;rw [Sem.wp]at h⊢;exact ih _ _ _ h
 |«at» p' k ih=>intro p s h;rw [Sem.wp]at h⊢;exact ih _ _ _ h
 |load a part k ih=>intro p s h;rw [Sem.wp]at h⊢;obtain⟨o,a,b⟩:=h;exact⟨o,a,ih _ _ _ b⟩
 |update a part f k ih=>intro p s h;rw [Sem.wp]at h⊢;exact⟨h.1,ih _ _ _ h.2⟩
 |alloc o k ih=>intro p s h;rw [Sem.wp]at h⊢;exact ih _ _ _ h
 |loadIfAlive a k ih=>intro p s h;rw [Sem.wp]at h⊢;exact ih _ _ _ h
 |point l k ih=>intro p s h;rw [Sem.wp]at h⊢;exact ih _ _ _ h
 |register a k ih=>intro p s h;rw [Sem.wp]at h;exact h.elim
 |fresh k ih=>intro p s h;rw [Sem.wp]at h⊢;exact ih _ _ _ h
 |ask k ih=>intro p s h;rw [Sem.wp]at h⊢;exact ih _ _ _ h
 |choose src n k ih=>intro p s h;rw [Sem.wp]at h⊢;exact⟨h.1,ih _ _ _ h.2⟩
 |os q l k ih=>intro p s h;rw [Sem.wp]at h⊢;exact ih _ _ _ h
 |call c hd g l k ih=>
  intro p s h;rw [Sem.wp]at h⊢
  refine fL h fun r s' a b=> ?_
  exact⟨r,s',tE a,ih _ _ _ b⟩
 |handled own k ih=>intro p s h;rw [Sem.wp]at h⊢;exact ih _ _ _ h
 |newGen c k ih=>intro p s h;rw [Sem.wp]at h⊢;exact ih _ _ _ h
 |genState g k ih=>intro p s h;rw [Sem.wp]at h⊢;obtain⟨o,a,b⟩:=h;exact⟨o,a,ih _ _ _ b⟩
 |resume g r l k ih=>intro p s h;rw [Sem.wp]at h⊢;obtain⟨res,s',a,b⟩:=h;exact⟨res,s',aK1 a,ih _ _ _ b⟩
 |yield v g l k ih=>intro p s h;rw [Sem.wp]at h;exact h.elim
 |stack k ih=>intro p s h;rw [Sem.wp]at h⊢;exact ih _ _ _ h
 |fork c k ih=>intro p s h;rw [Sem.wp]at h;exact h.elim
 |thread k ih=>intro p s h;rw [Sem.wp]at h⊢;exact ih _ _ _ h
 |await a t d l k ih=>intro p s h;rw [Sem.wp]at h;exact h.elim
theorem to1 {α:Type} {prog:Program} {w:World} {A:Around} {t:Sem α} {Q:α→Shared→Prop} {E:Value→Shared→Prop} {s:Shared} (h:wpAny (model prog w) A t Q E s):wpAny (aP prog w) A t Q E s:=
 fun Γ p hΓ=>aQt t p s (h Γ p hΓ)
theorem aH0 {prog:Program} {w:World} {A:Around} {c:Code} {R:Result→Shared→Prop} {s:Shared} (h:codeAny (model prog w) A c R s):codeAny (aP prog w) A c R s:=
 fun Γ p hc hΓ=>aO1 (h Γ p hc hΓ)
end Mine
end
section
namespace Mine
noncomputable def Two (prog:Program) (w:World) (s:Shared) (t:Thread):Prop:=step hG prog w s t=step (denote table) prog w s t∨
  ∃s₁ c p st tk,step hG prog w s t= .go s₁ ⟨.pure (.done (.ret (.bool false))),c,p,st⟩∧
   step (denote table) prog w s t= .go s₁ ⟨.pure (.again (.builtin "lifetime.ask" ⟨[.int 13 tk],[]⟩)),c,p,st⟩
theorem iS {prog:Program} {w:World} {s:Shared} {t:Thread} (h:step hG prog w s t=step (denote table) prog w s t):Two prog w s t:=.inl h
theorem aDh {prog:Program} {w:World} {s s₁:Shared} {t:Thread} {c c':Code} {p:Pos} {st:List Frame} (h:∀d,step d prog w s t= .go s₁ ⟨d c,c',p,st⟩):Two prog w s t:=by
 cases q:rC c with
 |false=>exact .inl ((h hG).trans (aA6 q▸(h (denote table)).symm))
 |true=>
  obtain⟨tk,ht⟩:=aGw q
  exact .inr ⟨s₁,c',p,st,tk,aCw q▸h hG,ht▸h (denote table)⟩
theorem aMo {prog:Program} {w:World} {s:Shared} {code:Code} {pos:Pos} {stack:List Frame} {g:Nat} {r:Resume} {l:List Value} {k:GenResult→Sem Fin}:Two prog w s ⟨.resume g r l k,code,pos,stack⟩:=by
 obtain⟨heap,gens,drawn,toks,os⟩:=s
 cases hg:gens[g]? with
 |none=>exact iS (by unfold step;dsimp only;rw [hg])
 |some x=>
  cases x with
  |fresh c=>
   cases r with
   |send v=>
    cases v with
    |none=>exact aDh (c:=c) (s₁:=⟨heap,gens.setIfInBounds g .running,drawn,toks,os⟩) (c':=c) (p:=pos) (st:=.gen g k l code pos::stack) fun d=>by unfold step;dsimp only;rw [hg]
    |_=>exact iS (by unfold step;dsimp only)
   |throw e=>exact iS (by unfold step;dsimp only)
  |_=>exact iS (by unfold step;dsimp only;rw [hg])
theorem aKj (prog:Program) (w:World) (s:Shared) (t:Thread):Two prog w s t:=by
 obtain⟨cur,code,pos,stack⟩:=t
 cases cur with
 |pure f=>
  cases f with
  |done f=>exact iS rfl
  |again c=>exact aDh fun zz=>rfl
 |call c h g l k=>exact aDh fun zz=>rfl
 |resume g r l k=>exact aMo
 |_=>exact iS rfl
noncomputable def kJ (tk:Tok) (c:Code) (p:Pos) (st:List Frame):Thread:=⟨.pure (.again (.builtin "lifetime.ask" ⟨[.int 13 tk],[]⟩)),c,p,st⟩
noncomputable def aQi (c:Code) (p:Pos) (st:List Frame):Thread:=⟨.pure (.done (.ret (.bool false))),c,p,st⟩
theorem aMb {s:Shared} {t:Thread} (hw:s.watching=false) (P:Params):(Config.single s t).collect? P=none∧(Config.single s t).collectable=[]:=
 ⟨if_pos (by rw [show(Config.single s t).shared=s from rfl,hw];rfl),if_pos (by rw [show(Config.single s t).shared=s from rfl,hw];rfl)⟩
theorem aM9 {s:Shared} {w:World} {tk:Tok} {c:Code} {p:Pos} {st:List Frame} (hw:s.watching=false):(Config.single s (kJ tk c p st)).pick w= .ok (.run 0,.single s (kJ tk c p st)):=by
 obtain⟨h1,h2⟩:=aMb (t:=kJ tk c p st) hw w.params
 have h3:(Config.single s (kJ tk c p st)).moves w.params.profile=[.run 0]:=ite_self _
 have h4:(Config.single s (kJ tk c p st)).pickThread w= .ok (.run 0,.single s (kJ tk c p st)):=by unfold Config.pickThread;rw [h3]
 unfold Config.pick
 rw [h1,h2,h4]
 cases w.params.lifetimes<;>rfl
theorem aMa {prog:Program} {w:World} {s:Shared} {tk:Tok} {c:Code} {p:Pos} {st:List Frame} (hw:s.watching=false) (hc:s.heap.life.counting=false):lifeStep (denote table) prog w [] s (kJ tk c p st)= .go s (aQi c p st):=by
 have ha:askTurn w.params [] s (kJ tk c p st) [.int 13 tk]=(s,aQi c p st):=if_pos (by rw [hw];simp)
 have e:lifeStep (denote table) prog w [] s (kJ tk c p st)=Step.go (if((askTurn w.params [] s (kJ tk c p st) [.int 13 tk]).1.heap.life.counting&& !((13:Int)==Ask.collectorsHourMatters))=true then(askTurn w.params [] s (kJ tk c p st) [.int 13 tk]).1.recounted (askTurn w.params [] s (kJ tk c p st) [.int 13 tk]).2 []else(askTurn w.params [] s (kJ tk c p st) [.int 13 tk]).1) (askTurn w.params [] s (kJ tk c p st) [.int 13 tk]).2:=by kernel_rfl
 rw [e,ha]
 exact congrArg (fun x=>Step.go x _) (if_neg (by rw [hc];simp))
theorem aI4 (prog:Program) (w:World) (s:Shared) (hz:s.asleep) (tk:Tok) (c:Code) (p:Pos) (st:List Frame):
  sstep (denote table) prog w (.single s ⟨.pure (.again (.builtin "lifetime.ask" ⟨[.int 13 tk],[]⟩)),c,p,st⟩)= .go (.single s ⟨.pure (.done (.ret (.bool false))),c,p,st⟩):=by
 obtain⟨hr,hc⟩:=hz
 have hw:s.watching=false:=by simp [Shared.watching,hr]
 show sstep (denote table) prog w (.single s (kJ tk c p st))= .go (.single s (aQi c p st))
 unfold sstep
 rw [aM9 hw]
 have e:Config.run (denote table) prog w (Config.single s (kJ tk c p st)) 0=(match lifeStep (denote table) prog w [] s (kJ tk c p st)with| .go s' t'=>SStep.go ⟨s',(#[ThreadState.live (kJ tk c p st)]).setIfInBounds 0 (ThreadState.live t'),0⟩| .halt o s'=>SStep.halt o s'):=by kernel_rfl
 refine Eq.trans e ?_
 rw [aMa hw hc]
 rfl
theorem aSm (prog:Program) (w:World) (n:Nat):∀(s:Shared) (t:Thread) (o:Outcome) (s':Shared),s.asleep→o.ends=true→
  (∀k s₁ t₁,runN hG prog w k s t= .running s₁ t₁→t₁.calm=true)→runN hG prog w n s t= .halted o s'→
  ∃m,schedN (denote table) prog w m (.single s t)= .halted o s':=by
 induction n with
 |zero=>intro s t o s' _ _ _ h;cases h
 |succ n ih=>
  intro s t o s' hz ho hc h
  have hcalm:=hc 0 s t rfl
  have hnext:∀s₁ t₁,step hG prog w s t= .go s₁ t₁→∀k s₂ t₂,runN hG prog w k s₁ t₁= .running s₂ t₂→t₂.calm=true:=fun s₁ t₁ e k s₂ t₂ hk=>
   hc (k+1) s₂ t₂ (by simp only [runN,e];exact hk)
  rcases aKj prog w s t with e|⟨s₁,c,p,st,tk,e1,e2⟩
  ·have hx:step (denote table) prog w s t≠ .halt (.unsupported "lifetime:generator-with-cleanup-left-suspended") s:=fun q=>by
    rw [←e]at q
    simp only [runN,q]at h
    injection h with h1 _
    subst h1
    cases ho
   have es:=(sstep_single (denote table) prog w s t hcalm hz).resolve_right hx
   simp only [runN]at h
   cases hs:step hG prog w s t with
   |go s₁ t₁=>
    simp only [hs]at h
    have hl:=step_life hG prog w s s₁ t t₁ hs
    refine cB (ih s₁ t₁ o s' (Shared.asleep_of_life hl hz) ho (hnext s₁ t₁ hs) h) fun m hm=> ?_
    refine⟨m+1, ?_⟩
    simp only [schedN,es,←e,hs]
    exact hm
   |halt o₁ s₁=>
    simp only [hs]at h
    injection h with h1 h2
    subst h1 h2
    refine⟨1, ?_⟩
    simp only [schedN,es,←e,hs]
    rfl
  ·simp only [runN,e1]at h
   have hl:=step_life hG prog w s s₁ t _ e1
   refine cB (ih s₁ _ o s' (Shared.asleep_of_life hl hz) ho (hnext s₁ _ e1) h) fun m hm=> ?_
   refine⟨m+2, ?_⟩
   have es:=(sstep_single (denote table) prog w s t hcalm hz).resolve_right (by rw [e2];intro q;cases q)
   simp only [schedN,es,e2,Step.lift]
   have ea:=aI4 prog w s₁ (Shared.asleep_of_life hl hz) tk c p st
   simp only [schedN,ea]
   exact hm
end Mine
end
section
namespace Mine
theorem pS {M:Model} {Γ:Ctx} {p:Pos} {t:Sem Fin} {fs:List Frame} {s s':Shared} {e:End} (h:Runs M Γ p t fs s e s'):s.toks≤s'.toks:=by
 induction h with
 |done=>exact Nat.le_refl _
 |raise=>exact Nat.le_refl _
 |again _ _ ih=>exact ih
 |rule _ ih=>exact ih
 |«at» _ ih=>exact ih
 |load _ _ ih=>exact ih
 |update _ _ ih=>exact ih
 |loadIfAlive _ ih=>exact ih
 |point _ ih=>exact ih
 |alloc _ ih=>exact ih
 |fresh _ ih=>exact Nat.le_trans (Nat.le_succ _) ih
 |ask _ ih=>exact ih
 |choose _ _ ih=>exact ih
 |os _ ih=>exact ih
 |handled _ ih=>exact ih
 |genState _ _ ih=>exact ih
 |stack _ ih=>exact ih
 |thread _ ih=>exact ih
 |newGen _ ih=>exact ih
 |call _ _ ih1 ih2=>exact Nat.le_trans ih1 ih2
 |callSusp _ ih=>exact ih
 |yield=>exact Nat.le_refl _
 |resumeFresh _ _ _ _ ih1 ih2=>exact Nat.le_trans (show _≤_ from ih1) ih2
 |resumeSuspended _ _ _ _ ih1 ih2=>exact Nat.le_trans (show _≤_ from ih1) ih2
 |resumeJustStarted _ _ _ ih=>exact ih
 |resumeThrowFresh _ _ ih=>exact ih
 |resumeRunning _ _ ih=>exact ih
 |resumeFinished _ _ ih=>exact ih
 |segRet _ _ ih1 ih2=>exact Nat.le_trans ih1 ih2
 |segGen _ _ ih1 ih2=>exact Nat.le_trans ih1 ih2
 |segSuspOut _ _ ih=>exact ih
 |segSuspGen _ _ _ _ ih1 ih2=>exact Nat.le_trans ih1 ih2
theorem aDg {M:Model} {Γ:Ctx} {p:Pos} {g:Nat} {r:Resume} {s s':Shared} {res:GenResult} (h:Wakes M Γ p g r s res s'):s.toks≤s'.toks:=by
 unfold Wakes at h
 split at h
 ·exact h.elim
 ·split at h
  ·refine aP4 h fun e₁ s₁ a zz zz q5_=> ?_;subst q5_
   have:=pS a
   exact this
  ·obtain⟨_,rfl⟩:=h;exact Nat.le_refl _
  ·obtain⟨_,rfl⟩:=h;exact Nat.le_refl _
 ·refine aP4 h fun e₁ s₁ a zz zz q5_=> ?_;subst q5_
  have:=pS a
  exact this
 ·obtain⟨_,rfl⟩:=h;exact Nat.le_refl _
 ·obtain⟨_,rfl⟩:=h;exact Nat.le_refl _
theorem aMh {α:Type} {M:Model} {Γ:Ctx} {N:Nat} {Q:α→Pos→Shared→Prop} {E:Value→Pos→Shared→Prop} (t:Sem α):
  ∀(p:Pos) (s:Shared),N≤s.toks→Sem.wp M Γ t (fun a p s'=>N≤s'.toks→Q a p s') (fun e p s'=>N≤s'.toks→E e p s') p s→Sem.wp M Γ t Q E p s:=by
 induction t with
 |pure a=>intro p s hn h;rw [Sem.wp]at h⊢;exact h hn
 |raise e=>intro p s hn h;rw [Sem.wp]at h⊢;exact h hn
 |unsupported w=>intro p s hn h;rw [Sem.wp]at h;exact h.elim
 |finish e=>intro p s hn h;rw [Sem.wp]at h;exact h.elim
 |rule tag k ih=>intro p s hn h;rw [Sem.wp]at h⊢;exact ih _ _ _ hn h
 |«at» p' k ih=>intro p s hn h;rw [Sem.wp]at h⊢;exact ih _ _ _ hn h
 |load a part k ih=>intro p s hn h;rw [Sem.wp]at h⊢;obtain⟨o,a,b⟩:=h;exact⟨o,a,ih _ _ _ hn b⟩
 |update a part f k ih=>intro p s hn h;rw [Sem.wp]at h⊢;exact⟨h.1,ih _ _ _ hn h.2⟩
 |alloc o k ih=>intro p s hn h;rw [Sem.wp]at h⊢;exact ih _ _ _ hn h
 |loadIfAlive a k ih=>intro p s hn h;rw [Sem.wp]at h⊢;exact ih _ _ _ hn h
 |point l k ih=>intro p s hn h;rw [Sem.wp]at h⊢;exact ih _ _ _ hn h
 |register a k ih=>intro p s hn h;rw [Sem.wp]at h;exact h.elim
 |fresh k ih=>intro p s hn h;rw [Sem.wp]at h⊢;exact ih _ _ _ (Nat.le_trans hn (Nat.le_succ _)) h
 |ask k ih=>intro p s hn h;rw [Sem.wp]at h⊢;exact ih _ _ _ hn h
 |choose src n k ih=>intro p s hn h;rw [Sem.wp]at h⊢;exact⟨h.1,ih _ _ _ hn h.2⟩
 |os q l k ih=>intro p s hn h;rw [Sem.wp]at h⊢;exact ih _ _ _ hn h
 |call c hd g l k ih=>
  intro p s hn h;rw [Sem.wp]at h⊢
  refine fL h fun r s' a b=> ?_
  exact⟨r,s',a,ih _ _ _ (Nat.le_trans hn (pS a)) b⟩
 |handled own k ih=>intro p s hn h;rw [Sem.wp]at h⊢;exact ih _ _ _ hn h
 |newGen c k ih=>intro p s hn h;rw [Sem.wp]at h⊢;exact ih _ _ _ hn h
 |genState g k ih=>intro p s hn h;rw [Sem.wp]at h⊢;obtain⟨o,a,b⟩:=h;exact⟨o,a,ih _ _ _ hn b⟩
 |resume g r l k ih=>intro p s hn h;rw [Sem.wp]at h⊢;obtain⟨res,s',a,b⟩:=h;exact⟨res,s',a,ih _ _ _ (Nat.le_trans hn (aDg a)) b⟩
 |yield v g l k ih=>intro p s hn h;rw [Sem.wp]at h;exact h.elim
 |stack k ih=>intro p s hn h;rw [Sem.wp]at h⊢;exact ih _ _ _ hn h
 |fork c k ih=>intro p s hn h;rw [Sem.wp]at h;exact h.elim
 |thread k ih=>intro p s hn h;rw [Sem.wp]at h⊢;exact ih _ _ _ hn h
 |await a t d l k ih=>intro p s hn h;rw [Sem.wp]at h;exact h.elim
theorem gK {α:Type} {M:Model} {A:Around} {t:Sem α} {Q:α→Shared→Prop} {E:Value→Shared→Prop} {s:Shared} (h0:0<s.toks) (h:wpAny M A t (fun a s'=>0<s'.toks→Q a s') (fun e s'=>0<s'.toks→E e s') s):wpAny M A t Q E s:=
 fun Γ p hΓ=>aMh (N:=1) t p s h0 (h Γ p hΓ)
theorem aFu {M:Model} {A:Around} {α:Type} {c:Prop} {dc:Decidable c} {a b:Sem α} {Q:α→Shared→Prop} {E:Value→Shared→Prop} {s:Shared} (h:¬c) (k:wpAny M A b Q E s):wpAny M A (@ite _ c dc a b) Q E s:=by rw [if_neg h];exact k
theorem aQu {M:Model} {A:Around} {α:Type} {c:Prop} {dc:Decidable c} {a b:Sem α} {Q:α→Shared→Prop} {E:Value→Shared→Prop} {s:Shared} (h:c) (k:wpAny M A a Q E s):wpAny M A (@ite _ c dc a b) Q E s:=by rw [if_pos h];exact k
end Mine
end
section
namespace Mine
noncomputable def lEq:List Nat→List Nat→Bool
 |[],[]=>true
 |a::l,b::r=>Nat.beq a b&&lEq l r
 |_,_=>false
theorem aGm:∀{l r:List Nat},lEq l r=true↔l=r
 |[],[]=>by simp [lEq]
 |[],_::_=>by simp [lEq]
 |_::_,[]=>by simp [lEq]
 |a::l,b::r=>by
  have ih:= @aGm l r
  simp only [lEq,Bool.and_eq_true,ih,List.cons.injEq]
  constructor
  ·rintro⟨h,h2⟩;exact⟨Nat.eq_of_beq_eq_true h,h2⟩
  ·rintro⟨rfl,h2⟩;exact⟨Nat.beq_refl a,h2⟩
noncomputable def sEq (a b:Str):Bool:=lEq a.cps.toList b.cps.toList
theorem sEq_iff {a b:Str}:sEq a b=true↔a=b:=by
 unfold sEq
 rw [aGm]
 constructor
 ·intro h
  obtain⟨⟨a⟩⟩:=a
  obtain⟨⟨b⟩⟩:=b
  simp only at h
  rw [h]
 ·rintro rfl;rfl
theorem sEq_ne {a b:Str}:sEq a b=false↔a≠b:=by
 rw [←Bool.not_eq_true,sEq_iff]
theorem aKw (a b:Str):sEq a b=sEq b a:=by
 cases h:sEq a b with
 |true=>rw [sEq_iff]at h;subst h;exact(sEq_iff.mpr rfl).symm
 |false=>rw [sEq_ne]at h;exact(sEq_ne.mpr (Ne.symm h)).symm
inductive Cls where
 |fin (l:List Nat)
 |cofin (l:List Nat)
noncomputable def Cls.has:Cls→Nat→Prop
 | .fin l,c=>c∈l
 | .cofin l,c=>c∉l
inductive AV where
 |none
 |bool (b:Bool)
 |int (i:Int)
 |isym (i:Int)
 |str (s:Str)
 |sym (e:Option Bool) (s:Str)
 |chr (k:Cls) (c:Nat)
 |val (v:Value)
 |obj (k:Nat)
inductive AO where
 |inst (C:Addr) (fs:List (Str×AV))
 |list (xs:List AV)
 |tup (xs:List AV)
 |deq (xs:List AV)
 |raw (P:Addr→Obj→Prop)
 |flds (T:String) (xs:List AV)
 |fix (vs:List Value) (n:Nat)
structure OA where
 a:Addr
 d:Option Addr
structure AS where
 loc:List (Str×AV)
 objs:List AO
noncomputable def aS (ρ:List OA):List Addr:=ρ.flatMap fun x=>x.a::x.d.toList
theorem aL (ρ ρ':List OA):aS (ρ++ρ')=aS ρ++aS ρ':=by simp [aS]
theorem mD:∀{ρ:List OA} {i k:Nat} {x y:OA} {b:Addr},(aS ρ).Nodup→ρ[i]?=some x→ρ[k]?=some y→i≠k→b∈x.a::x.d.toList→b∈y.a::y.d.toList→False
 |[],i,k,x,y,b,_,h1,_,_,_,_=>by simp at h1
 |z::ρ,i,k,x,y,b,hn,h1,h2,hne,hx,hy=>by
  have e:aS (z::ρ)=(z.a::z.d.toList)++aS ρ:=rfl
  rw [e]at hn
  have hn':=List.nodup_append.mp hn
  have mem:∀{j:Nat} {u:OA},ρ[j]?=some u→b∈u.a::u.d.toList→b∈aS ρ:=fun h hb=>List.mem_flatMap.mpr ⟨_,List.mem_of_getElem? h,hb⟩
  cases i with
  |zero=>
   cases k with
   |zero=>exact hne rfl
   |succ k=>
    simp only [List.getElem?_cons_zero,Option.some.injEq]at h1
    subst h1
    rw [List.getElem?_cons_succ]at h2
    exact hn'.2.2 b hx b (mem h2 hy) rfl
  |succ i=>
   rw [List.getElem?_cons_succ]at h1
   cases k with
   |zero=>
    simp only [List.getElem?_cons_zero,Option.some.injEq]at h2
    subst h2
    exact hn'.2.2 b hy b (mem h1 hx) rfl
   |succ k=>
    rw [List.getElem?_cons_succ]at h2
    exact mD hn'.2.1 h1 h2 (fun q=>hne (by rw [q])) hx hy
noncomputable def den (ρ:List OA):AV→Value→Prop
 | .none,v=>v= .none
 | .bool b,v=>v= .bool b
 | .int i,v=>∃t,v= .int i t
 | .isym i,v=>∃t,v= .int i t
 | .str x,v=>(∃t,v= .str x t)∧x.length≤sizeLine
 | .sym e x,v=>(∃t,v= .str x t)∧x.length≤sizeLine∧(e=some true→x.cps.toList≠ [])∧(e=some false→x.cps.toList=[])
 | .chr k c,v=>(∃t,v= .str ⟨#[c]⟩ t)∧k.has c
 | .val u,v=>v=u
 | .obj k,v=>∃x,ρ[k]?=some x∧v= .ref x.a
theorem cA {ρ new:List OA} {a:AV} {v:Value} (h:den ρ a v):den (ρ++new) a v:=by
 cases a with
 |obj k=>
  refine aH h fun x hx q2_=> ?_;subst q2_
  exact⟨x,by rw [List.getElem?_append_left (List.getElem?_eq_some_iff.mp hx).1];exact hx,rfl⟩
 |_=>exact h
inductive All2 {α β:Type} (P:α→β→Prop):List α→List β→Prop
 |nil:All2 P [] []
 |cons {a b l r}:P a b→All2 P l r→All2 P (a::l) (b::r)
theorem All2.mono {α β:Type} {P P':α→β→Prop} (h:∀a b,P a b→P' a b) {l:List α} {r:List β} (x:All2 P l r):All2 P' l r:=by
 induction x with
 |nil=>exact .nil
 |cons p _ ih=>exact .cons (h _ _ p) ih
theorem All2.length {α β:Type} {P:α→β→Prop} {l:List α} {r:List β} (x:All2 P l r):l.length=r.length:=by
 induction x with
 |nil=>rfl
 |cons _ _ ih=>simp [ih]
theorem All2.append {α β:Type} {P:α→β→Prop} {l l':List α} {r r':List β} (x:All2 P l r) (y:All2 P l' r'):All2 P (l++l') (r++r'):=by
 induction x with
 |nil=>exact y
 |cons p _ ih=>exact .cons p ih
noncomputable abbrev FRel (ρ:List OA) (fs:List (Str×AV)) (es:List DictEntry):Prop:=All2 (fun f e=>(∃t,e.key= .str f.1 t)∧den ρ f.2 e.val) fs es
noncomputable def aU (vs:List Value) (k:Int):Obj:={cls:=.type "collections.deque",data:=.fields (#[.none,rawInt k]++vs.toArray)}
noncomputable def ORel (ρ:List OA) (h:Heap) (x:OA):AO→Prop
 | .inst C fs=>∃dx es n,x.d=some dx∧h.get? x.a=some (instObj C dx)∧h.get? dx=some (dictOf es n)∧FRel ρ fs es
 | .list xs=>∃vs n,x.d=none∧h.get? x.a=some {cls:=.type "list",data:=.seq vs.toArray n}∧All2 (den ρ) xs vs
 | .tup xs=>∃vs n,x.d=none∧h.get? x.a=some {cls:=.type "tuple",data:=.seq vs.toArray n}∧All2 (den ρ) xs vs
 | .deq xs=>∃vs k,x.d=none∧h.get? x.a=some (aU vs k)∧All2 (den ρ) xs vs
 | .raw P=>x.d=none∧∃o,h.get? x.a=some o∧P x.a o
 | .fix vs n=>x.d=none∧h.get? x.a=some {cls:=.type "list",data:=.seq vs.toArray n}
 | .flds T xs=>∃vs,x.d=none∧h.get? x.a=some {cls:=.type T,data:=.fields vs.toArray}∧All2 (den ρ) xs vs
theorem ORel.mono {ρ new:List OA} {h h':Heap} {x:OA} {o:AO} (r:ORel ρ h x o) (k:∀b∈x.a::x.d.toList,∀o,h.get? b=some o→h'.get? b=some o):ORel (ρ++new) h' x o:=by
 cases o with
 |inst C fs=>
  refine yT r fun dx es n hd h1 h2 h3=> ?_
  exact⟨dx,es,n,hd,k _ (.head _) _ h1,k _ (by rw [hd];simp) _ h2,h3.mono fun zz zz q=>⟨q.1,cA q.2⟩⟩
 |list xs=>
  refine kK r fun vs n hd h1 h2=> ?_
  exact⟨vs,n,hd,k _ (.head _) _ h1,h2.mono fun zz zz q=>cA q⟩
 |tup xs=>
  refine kK r fun vs n hd h1 h2=> ?_
  exact⟨vs,n,hd,k _ (.head _) _ h1,h2.mono fun zz zz q=>cA q⟩
 |deq xs=>
  refine kK r fun vs n hd h1 h2=> ?_
  exact⟨vs,n,hd,k _ (.head _) _ h1,h2.mono fun zz zz q=>cA q⟩
 |fix vs n=>exact⟨r.1,k _ (.head _) _ r.2⟩
 |raw P=>obtain⟨hd,o,h1,h2⟩:=r;exact⟨hd,o,k _ (.head _) _ h1,h2⟩
 |flds T xs=>
  refine iR r fun vs hd h1 h2=> ?_
  exact⟨vs,hd,k _ (.head _) _ h1,h2.mono fun zz zz q=>cA q⟩
theorem ORel.keep {ρ:List OA} {h h':Heap} {x:OA} {o:AO} (r:ORel ρ h x o) (k:∀b∈x.a::x.d.toList,∀o,h.get? b=some o→h'.get? b=some o):ORel ρ h' x o:=by
 have:=r.mono (new:=[]) k
 rwa [List.append_nil]at this
theorem ORel.at {ρ:List OA} {h:Heap} {x:OA} {o:AO} (r:ORel ρ h x o):∀b∈x.a::x.d.toList,∃o,h.get? b=some o:=by
 intro b hb
 cases o with
 |inst C fs=>
  refine yT r fun dx es n hd h1 h2 h3=> ?_
  rw [hd]at hb
  simp only [Option.toList_some,List.mem_cons,List.not_mem_nil,or_false]at hb
  rcases hb with rfl|rfl
  ·exact⟨_,h1⟩
  ·exact⟨_,h2⟩
 |list xs=>obtain⟨vs,n,hd,h1,h2⟩:=r;rw [hd]at hb;simp at hb;subst hb;exact⟨_,h1⟩
 |tup xs=>obtain⟨vs,n,hd,h1,h2⟩:=r;rw [hd]at hb;simp at hb;subst hb;exact⟨_,h1⟩
 |deq xs=>obtain⟨vs,n,hd,h1,h2⟩:=r;rw [hd]at hb;simp at hb;subst hb;exact⟨_,h1⟩
 |fix vs n=>obtain⟨hd,h1⟩:=r;rw [hd]at hb;simp at hb;subst hb;exact⟨_,h1⟩
 |raw P=>obtain⟨hd,o,h1,_⟩:=r;rw [hd]at hb;simp at hb;subst hb;exact⟨_,h1⟩
 |flds T xs=>obtain⟨vs,hd,h1,h2⟩:=r;rw [hd]at hb;simp at hb;subst hb;exact⟨_,h1⟩
noncomputable def look (x:Str):List (Str×AV)→Option AV
 |[]=>none
 |(y,v)::r=>match sEq y x with
  |true=>some v
  |false=>look x r
noncomputable def put (x:Str) (a:AV):List (Str×AV)→List (Str×AV)
 |[]=>[(x,a)]
 |(y,v)::r=>match sEq y x with
  |true=>(y,a)::r
  |false=>(y,v)::put x a r
theorem aC5 (x y:Str) (a:AV):∀l:List (Str×AV),look y (put x a l)=if y=x then some a else look y l
 |[]=>by
  by_cases h:y=x
  ·subst h;simp [put,look,sEq_iff.mpr rfl]
  ·have:sEq x y=false:=sEq_ne.mpr (Ne.symm h)
   simp [put,look,this,h]
 |(z,v)::r=>by
  have ih:=aC5 x y a r
  unfold put
  cases hz:sEq z x with
  |true=>
   have:=sEq_iff.mp hz;subst this
   by_cases h:y=z
   ·subst h;simp [look,sEq_iff.mpr rfl]
   ·have:sEq z y=false:=sEq_ne.mpr (Ne.symm h)
    simp [look,this,h]
  |false=>
   by_cases h:y=x
   ·subst h
    simp only [look,hz,ih]
   ·simp only [h,if_false]at ih⊢
    simp only [look,ih]
noncomputable def LocRel (ρ:List OA) (loc:List (Str×AV)) (m:Str→Option Value):Prop:=
 ∀x a,look x loc=some a→∃v,m x=some v∧den ρ a v
theorem LocRel.mono {ρ new:List OA} {loc:List (Str×AV)} {m:Str→Option Value} (h:LocRel ρ loc m):LocRel (ρ++new) loc m:=fun x a q=>by
 refine aH (h x a q) fun v a b=> ?_
 exact⟨v,a,cA b⟩
theorem LocRel.put {ρ:List OA} {loc:List (Str×AV)} {m:Str→Option Value} (h:LocRel ρ loc m) {x:Str} {a:AV} {v:Value} (d:den ρ a v):LocRel ρ (Mine.put x a loc) (fun y=>if y=x then some v else m y):=fun y b q=>by
 rw [aC5]at q
 by_cases e:y=x
 ·simp only [e,if_true,Option.some.injEq]at q⊢;subst q;exact⟨v,rfl,d⟩
 ·simp only [e,if_false]at q⊢;exact h y b q
noncomputable def Frs (hb h:Heap) (bad:List Addr) (fr:List Env):Prop:=
 ∀env∈fr,env.scope.kind≠ .module∧∃L o es n,env.frame=some L∧hb.get? L=none∧L∉bad∧h.get? L=some o∧o.data= .dict es n
structure Rel (hb:Heap) (L:Addr) (fr:List Env) (ρ:List OA) (st:AS) (s:Shared):Prop where
 base:hb.StaysIn s.heap
 loc:∃m,s.heap.Ns L m∧LocRel ρ st.loc m
 above:hb.get? L=none
 len:ρ.length=st.objs.length
 objs:∀(k:Nat) (o:AO),st.objs[k]?=some o→∃x,ρ[k]?=some x∧ORel ρ s.heap x o
 apart:(L::aS ρ).Nodup
 new:∀a∈aS ρ,hb.get? a=none
 frs:Frs hb s.heap (aS ρ) fr
 tk:0<s.toks
structure Kept (o o':Obj):Prop where
 data:o'.data=o.data
 cls:o'.cls=o.cls
 dict:o'.dict=o.dict
 same:(∀es n,o.data≠ .dict es n)→o'=o
theorem Kept.refl (o:Obj):Kept o o:=⟨rfl,rfl,rfl,fun zz=>rfl⟩
theorem Kept.trans {a b c:Obj} (x:Kept a b) (y:Kept b c):Kept a c:=⟨y.data.trans x.data,y.cls.trans x.cls,y.dict.trans x.dict,fun h=>by rw [y.same (by rw [x.data];exact h),x.same h]⟩
noncomputable def KeptAt (h:Heap) (b:Addr) (o:Obj):Prop:=∃o',h.get? b=some o'∧Kept o o'
theorem KeptAt.of {h:Heap} {b:Addr} {o:Obj} (e:h.get? b=some o):KeptAt h b o:=⟨o,e,.refl o⟩
structure Next (L:Addr) (ρ:List OA) (s:Shared) (ρ':List OA) (s':Shared):Prop where
 ext:∃new,ρ'=ρ++new∧∀a∈aS new,∀o,s.heap.get? a=some o→a=L∨a∈aS ρ
 keep:∀b o,s.heap.get? b=some o→b≠L→b∉aS ρ→KeptAt s'.heap b o
 gens:s'.gens=s.gens
 os:s'.os=s.os
theorem Next.refl (L:Addr) (ρ:List OA) (s:Shared):Next L ρ s ρ s:=⟨⟨[],by simp,by simp [aS]⟩,fun zz zz e zz zz=>.of e,rfl,rfl⟩
theorem Next.trans {L:Addr} {ρ ρ₁ ρ₂:List OA} {s s₁ s₂:Shared} (x:Next L ρ s ρ₁ s₁) (y:Next L ρ₁ s₁ ρ₂ s₂):Next L ρ s ρ₂ s₂:=by
 obtain⟨⟨n1,rfl,h1⟩,k1,g1,o1⟩:=x
 obtain⟨⟨n2,rfl,h2⟩,k2,g2,o2⟩:=y
 refine⟨⟨n1++n2,by simp,fun a ha o e=> ?_⟩,fun b o e hb hn=> ?_,g2.trans g1,o2.trans o1⟩
 ·rw [aL,List.mem_append]at ha
  rcases ha with ha|ha
  ·exact h1 a ha o e
  ·by_cases q:a=L
   ·exact .inl q
   ·by_cases q2:a∈aS ρ
    ·exact .inr q2
    ·refine aH (k1 a o e q q2) fun o' e' zz=> ?_
     rcases h2 a ha o' e' with z|z
     ·exact .inl z
     ·rw [aL,List.mem_append]at z
      rcases z with z|z
      ·exact .inr z
      ·exact h1 a z o e
 ·refine aH (k1 b o e hb hn) fun o' e' x'=> ?_
  obtain⟨o'',e'',x''⟩:=k2 b o' e' hb fun q=>by
   rw [aL,List.mem_append]at q
   rcases q with q|q
   ·exact hn q
   ·rcases h1 b q o e with z|z
    ·exact hb z
    ·exact hn z
  exact⟨o'',e'',x'.trans x''⟩
theorem Next.toks {L:Addr} {ρ ρ':List OA} {s s':Shared} (x:Next L ρ s ρ' s') (t:Nat):Next L ρ s ρ' {s' with toks:=t}:=⟨x.ext,x.keep,x.gens,x.os⟩
theorem Next.den {L:Addr} {ρ ρ':List OA} {s s':Shared} (x:Next L ρ s ρ' s') {a:AV} {v:Value} (h:den ρ a v):den ρ' a v:=by
 refine aH (x.ext) fun n q1_ zz=> ?_;subst q1_
 exact cA h
section
variable {hb:Heap} {L:Addr} {fr:List Env} {ρ:List OA} {st:AS} {s:Shared}
theorem Rel.toks (R:Rel hb L fr ρ st s) {t:Nat} (ht:0<t):Rel hb L fr ρ st {s with toks:=t}:=⟨R.base,R.loc,R.above,R.len,R.objs,R.apart,R.new,R.frs,ht⟩
theorem Rel.grow (R:Rel hb L fr ρ st s) {h':Heap} (k:∀b o,s.heap.get? b=some o→h'.get? b=some o):Rel hb L fr ρ st {s with heap:=h'}:=by
 refine aH (R.loc) fun m hn hl=> ?_
 refine⟨fun b o e=>k b o (R.base b o e),⟨m,hn.keeps k,hl⟩,R.above,R.len,fun i o e=> ?_,R.apart,R.new,fun env he=> ?_,R.tk⟩
 ·refine aH (R.objs i o e) fun x hx r=> ?_
  exact⟨x,hx,r.keep fun b zz o e=>k b o e⟩
 ·obtain⟨hk,L',o,es,n,a,b,c,d,e⟩:=R.frs env he
  exact⟨hk,L',o,es,n,a,b,c,k _ _ d,e⟩
theorem Next.grow {h':Heap} (k:∀b o,s.heap.get? b=some o→h'.get? b=some o):Next L ρ s ρ {s with heap:=h'}:=
 ⟨⟨[],by simp,by simp [aS]⟩,fun b o e zz zz=>.of (k b o e),rfl,rfl⟩
theorem Rel.at_some (R:Rel hb L fr ρ st s):∀a∈aS ρ,∃o,s.heap.get? a=some o:=by
 intro a ha
 unfold aS at ha
 refine aH (List.mem_flatMap.mp ha) fun x hx hax=> ?_
 obtain⟨i,hi,rfl⟩:=List.getElem_of_mem hx
 have hi':i<st.objs.length:=R.len▸hi
 refine aH (R.objs i _ (List.getElem?_eq_getElem hi')) fun y hy r=> ?_
 rw [List.getElem?_eq_getElem hi]at hy
 obtain rfl:=Option.some.inj hy
 exact r.at a hax
theorem Rel.at_lt (R:Rel hb L fr ρ st s):∀a∈aS ρ,a<s.heap.objs.size:=fun a ha=>let ⟨_,ho⟩:=R.at_some a ha;Heap.lt_size ho
theorem Rel.at_L (R:Rel hb L fr ρ st s):∃o,s.heap.get? L=some o:=let ⟨_,⟨o,_,_,h,_⟩,_⟩:=R.loc;⟨o,h⟩
theorem cZ {h:Heap} {a b:Addr} {o:Obj} (e:h.get? a=some o) (n:h.get? b=none):a≠b:=fun q=>by rw [q,n]at e;cases e
theorem Rel.store (R:Rel hb L fr ρ st s) {m:Str→Option Value} (hl:LocRel ρ st.loc m) {h':Heap} {x:Str} {v:Value} {a:AV} (hn:h'.Ns L (fun y=>if y=x then some v else m y)) (hs:Heap.SameBut L s.heap h') (d:den ρ a v) {t:Nat} (ht:0<t):
  Rel hb L fr ρ {st with loc:=put x a st.loc} {s with heap:=h',toks:=t}:=by
 have hL:∀b,b∈aS ρ→b≠L:=fun b hb q=>(List.nodup_cons.mp R.apart).1 (q▸hb)
 refine⟨fun b o e=>(hs.2 b (cZ e R.above)).trans (R.base b o e),⟨_,hn,hl.put d⟩,R.above,R.len,fun i o e=> ?_,R.apart,R.new,fun env he=> ?_,ht⟩
 ·refine aH (R.objs i o e) fun y hy r=> ?_
  refine⟨y,hy,r.keep fun b hb o e=>(hs.2 b (hL b ?_)).trans e⟩
  exact List.mem_flatMap.mpr ⟨y,List.mem_of_getElem? hy,hb⟩
 ·obtain⟨hk,L',o,es,n,a,b,c,d,e⟩:=R.frs env he
  by_cases q:L'=L
  ·subst q
   refine aJw hn fun o' es' n' h1 h2 zz=> ?_
   exact⟨hk,L',o',es',n',a,b,c,h1,h2⟩
  ·exact⟨hk,L',o,es,n,a,b,c,(hs.2 L' q).trans d,e⟩
theorem Next.store {h':Heap} (hs:Heap.SameBut L s.heap h') (t:Nat):Next L ρ s ρ {s with heap:=h',toks:=t}:=
 ⟨⟨[],by simp,by simp [aS]⟩,fun b o e hb zz=>.of ((hs.2 b hb).trans e),rfl,rfl⟩
theorem Rel.turn (R:Rel hb L fr ρ st s) {k:Nat} {x:OA} {o:AO} (hx:ρ[k]?=some x) {b:Addr} (hbx:b∈x.a::x.d.toList) {f:Obj→Obj} (r:ORel ρ (s.heap.update b f) x o):
  Rel hb L fr ρ {st with objs:=st.objs.set k o} {s with heap:=s.heap.update b f}:=by
 have hba:b∈aS ρ:=List.mem_flatMap.mpr ⟨x,List.mem_of_getElem? hx,hbx⟩
 have hbL:b≠L:=fun q=>(List.nodup_cons.mp R.apart).1 (q▸hba)
 have ke:∀c,c≠b→(s.heap.update b f).get? c=s.heap.get? c:=fun c hc=>Heap.get?_update_other _ _ (Ne.symm hc)
 refine aH (R.loc) fun m hn hl=> ?_
 refine⟨fun c o e=>(ke c fun q=> ?_).trans (R.base c o e),⟨m, ?_,hl⟩,R.above,by simp [R.len],fun i o' e=> ?_,R.apart,R.new,fun env he=> ?_,R.tk⟩
 ·subst q;exact cZ e (R.new c hba) rfl
 ·refine nX hn fun oL es n h1 h2=> ?_
  exact⟨oL,es,n,(ke L (Ne.symm hbL)).trans h1,h2⟩
 ·by_cases q:i=k
  ·subst q
   obtain rfl:o=o':=by
    have:=(List.getElem?_eq_some_iff.mp e)
    simp only at this
    obtain⟨h1,h2⟩:=this
    rw [List.getElem_set_self]at h2
    exact h2
   exact⟨x,hx,r⟩
  ·simp only at e
   rw [List.getElem?_set_ne (Ne.symm q)]at e
   refine aH (R.objs i o' e) fun y hy ry=> ?_
   refine⟨y,hy,ry.keep fun c hc oc ec=>(ke c fun z=> ?_).trans ec⟩
   subst z
   exact mD (List.nodup_cons.mp R.apart).2 hy hx q hc hbx
 ·obtain⟨hk',L',o',es,n,a,b',c,d,e⟩:=R.frs env he
  exact⟨hk',L',o',es,n,a,b',c,(ke L' fun q=>c (q▸hba)).trans d,e⟩
theorem Next.turn {k:Nat} {x:OA} (hx:ρ[k]?=some x) {b:Addr} (hbx:b∈x.a::x.d.toList) {f:Obj→Obj}:Next L ρ s ρ {s with heap:=s.heap.update b f}:=by
 refine⟨⟨[],by simp,by simp [aS]⟩,fun c o e zz hc=> ?_,rfl,rfl⟩
 have hne:b≠c:=fun q=>hc (List.mem_flatMap.mpr ⟨x,List.mem_of_getElem? hx,q▸hbx⟩)
 exact .of ((Heap.get?_update_other _ _ hne).trans e)
theorem Rel.track (R:Rel hb L fr ρ st s) {h':Heap} (k:∀b o,s.heap.get? b=some o→h'.get? b=some o) {x:OA} (hnew:∀a∈x.a::x.d.toList,s.heap.get? a=none) (hnd:(x.a::x.d.toList).Nodup) {o:AO} (r:ORel (ρ++[x]) h' x o):
  Rel hb L fr (ρ++[x]) {st with objs:=st.objs++[o]} {s with heap:=h'}:=by
 have G:=R.grow k
 refine aH (G.loc) fun m hn hl=> ?_
 have hbs:∀a,s.heap.get? a=none→hb.get? a=none:=fun a e=>by cases q:hb.get? a with|none=>rfl|some o=>rw [R.base a o q]at e;cases e
 have ax:aS [x]=x.a::x.d.toList:=by simp [aS]
 have lt:∀a∈aS ρ,∀b∈x.a::x.d.toList,a≠b:=fun a ha b hb=>let ⟨_,e⟩:=R.at_some a ha;cZ e (hnew b hb)
 have ltL:∀b∈x.a::x.d.toList,L≠b:=fun b hb=>let ⟨_,e⟩:=R.at_L;cZ e (hnew b hb)
 refine⟨G.base,⟨m,hn,hl.mono⟩,R.above,by simp [R.len],fun i o' e=> ?_, ?_,fun a ha=> ?_,fun env he=> ?_,R.tk⟩
 ·by_cases q:i<st.objs.length
  ·simp only at e
   rw [List.getElem?_append_left q]at e
   refine aH (G.objs i o' e) fun y hy ry=> ?_
   exact⟨y,by rw [List.getElem?_append_left (R.len▸q)];exact hy,ry.mono fun zz zz zz e=>e⟩
  ·simp only at e
   rw [List.getElem?_append_right (Nat.le_of_not_lt q)]at e
   have hi:i - st.objs.length=0:=by
    have:=(List.getElem?_eq_some_iff.mp e).1
    simp only [List.length_singleton]at this
    lia
   rw [hi]at e
   simp only [List.getElem?_cons_zero,Option.some.injEq]at e
   subst e
   refine⟨x, ?_,r⟩
   rw [List.getElem?_append_right (R.len▸Nat.le_of_not_lt q),R.len,hi]
   rfl
 ·rw [aL,ax]
  have h1:=List.nodup_cons.mp R.apart
  refine List.nodup_cons.mpr ⟨fun q=> ?_,List.nodup_append.mpr ⟨h1.2,hnd,lt⟩⟩
  rcases List.mem_append.mp q with q|q
  ·exact h1.1 q
  ·exact ltL L q rfl
 ·rw [aL,ax,List.mem_append]at ha
  rcases ha with ha|ha
  ·exact R.new a ha
  ·exact hbs a (hnew a ha)
 ·obtain⟨hk,L',o,es,n,a,b,c,d,e⟩:=R.frs env he
  refine⟨hk,L',o,es,n,a,b,fun q=> ?_,k _ _ d,e⟩
  rw [aL,ax,List.mem_append]at q
  rcases q with q|q
  ·exact c q
  ·exact cZ d (hnew _ q) rfl
theorem Next.track {h':Heap} (k:∀b o,s.heap.get? b=some o→h'.get? b=some o) {x:OA} (hnew:∀a∈x.a::x.d.toList,s.heap.get? a=none):
  Next L ρ s (ρ++[x]) {s with heap:=h'}:=⟨⟨[x],rfl,fun a ha o e=>by have:a∈x.a::x.d.toList:=(by simpa [aS]using ha);rw [hnew a this]at e;cases e⟩,fun b o e zz zz=>.of (k b o e),rfl,rfl⟩
end
end Mine
end
section
namespace Mine
structure Glo (K:Params→Frag) (w:World) (hb:Heap):Prop where
 X:(K w.params).In hb
 T:∃p loose mean mg mb,Top p loose mean mg mb hb
structure Cx where
 w:World
 hb:Heap
 A:Around
 env:Env
 L:Addr
 fr:List Env
noncomputable def Bud (n:Nat) (A:Around):Prop:=A.depth+2*n+2≤recursionLimit∧A.units+40*n+40≤cLine
theorem Bud.le {n m:Nat} {A:Around} (h:Bud n A) (hm:m≤n):Bud m A:=⟨by have:=h.1;lia,by have:=h.2;lia⟩
structure Cx.Run (K:Params→Frag) (n:Nat) (x:Cx):Prop where
 glo:Glo K x.w x.hb
 frames:x.A.frames=some x.fr
 bud:Bud n x.A
 handled:x.A.handled=none
structure Cx.Ok (K:Params→Frag) (n:Nat) (sc:Scope) (x:Cx):Prop extends x.Run K n where
 scope:x.env.scope=sc
 kind:sc.kind= .function
 locals:x.env.locals=x.L
 globals:x.env.globals=mainGlobals
 builtins:x.env.builtins=builtinsNs
theorem Cx.Run.le {K:Params→Frag} {n m:Nat} {x:Cx} (h:x.Run K n) (hm:m≤n):x.Run K m:=⟨h.glo,h.frames,h.bud.le hm,h.handled⟩
theorem Cx.Ok.le {K:Params→Frag} {n m:Nat} {sc:Scope} {x:Cx} (h:x.Ok K n sc) (hm:m≤n):x.Ok K m sc:=⟨h.toRun.le hm,h.scope,h.kind,h.locals,h.globals,h.builtins⟩
noncomputable def Ext (ρ ρ':List OA):Prop:=∃new,ρ'=ρ++new
theorem Ext.refl (ρ:List OA):Ext ρ ρ:=⟨[],by simp⟩
theorem Ext.trans {a b c:List OA} (x:Ext a b) (y:Ext b c):Ext a c:=by
 obtain⟨n,rfl⟩:=x
 obtain⟨m,rfl⟩:=y
 exact⟨n++m,by simp⟩
theorem Ext.den {ρ ρ':List OA} (x:Ext ρ ρ') {a:AV} {v:Value} (h:den ρ a v):den ρ' a v:=by
 obtain⟨n,rfl⟩:=x
 exact cA h
theorem Ext.dens {ρ ρ':List OA} (x:Ext ρ ρ') {l:List AV} {vs:List Value} (h:All2 (Mine.den ρ) l vs):All2 (Mine.den ρ') l vs:=h.mono fun zz zz q=>x.den q
theorem Next.to {L:Addr} {ρ ρ':List OA} {s s':Shared} (x:Next L ρ s ρ' s'):Ext ρ ρ':=let ⟨n,h,_⟩:=x.ext;⟨n,h⟩
noncomputable abbrev mx (x:Cx):Model:=aP P0 x.w
noncomputable def Tri {α:Type} (x:Cx) (ρ:List OA) (st:AS) (t:Sem α) (st':AS) (post:List OA→α→Prop):Prop:=
 ∀(s:Shared) (Q:α→Shared→Prop) (E:Value→Shared→Prop),Rel x.hb x.L x.fr ρ st s→
  (∀a s' ρ',Rel x.hb x.L x.fr ρ' st' s'→Next x.L ρ s ρ' s'→post ρ' a→Q a s')→wpAny (mx x) x.A t Q E s
section
variable {α β:Type} {x:Cx} {ρ:List OA} {st st₁ st₂:AS}
theorem Tri.bind {m:Sem α} {f:α→Sem β} {p:List OA→α→Prop} {q:List OA→β→Prop} (h:Tri x ρ st m st₁ p) (k:∀ρ₁ a,Ext ρ ρ₁→p ρ₁ a→Tri x ρ₁ st₁ (f a) st₂ q):Tri x ρ st (m>>=f) st₂ q:=
 fun s Q E R kk=>wpAny_bind (h s _ E R fun a s₁ ρ₁ R₁ N₁ pa=>k ρ₁ a N₁.to pa s₁ Q E R₁ fun b s₂ ρ₂ R₂ N₂ pb=>kk b s₂ ρ₂ R₂ (N₁.trans N₂) pb)
theorem Tri.pure {a:α} {p:List OA→α→Prop} (h:p ρ a):Tri x ρ st (Pure.pure a:Sem α) st p:=fun s zz zz R k=>wpAny_pure (k a s ρ R (.refl ..) h)
theorem Tri.imp {t:Sem α} {p q:List OA→α→Prop} (h:Tri x ρ st t st₁ p) (k:∀ρ₁ a,Ext ρ ρ₁→p ρ₁ a→q ρ₁ a):Tri x ρ st t st₁ q:=
 fun s Q E R kk=>h s Q E R fun a s₁ ρ₁ R₁ N₁ pa=>kk a s₁ ρ₁ R₁ N₁ (k ρ₁ a N₁.to pa)
theorem Tri.holding {vs:List Value} {t:Sem α} {p:List OA→α→Prop} (h:Tri x ρ st t st₁ p):Tri x ρ st (holding vs t) st₁ p:=fun s Q E R k=>wpAny_holding (h s Q E R k)
theorem Tri.standAt {pos:Pos} {f:Unit→Sem β} {q:List OA→β→Prop} (h:Tri x ρ st (f ()) st₁ q):Tri x ρ st (standAt pos>>=f) st₁ q:=fun s Q E R k=>wpAny_bind (wpAny_standAt (h s Q E R k))
theorem Tri.rule {tag:String} {f:Unit→Sem β} {q:List OA→β→Prop} (h:Tri x ρ st (f ()) st₁ q):Tri x ρ st (PySem.rule tag>>=f) st₁ q:=fun s Q E R k=>wpAny_bind (wpAny_rule (h s Q E R k))
theorem Tri.point {f:Unit→Sem β} {q:List OA→β→Prop} (h:Tri x ρ st (f ()) st₁ q):Tri x ρ st (point>>=f) st₁ q:=fun s Q E R k=>wpAny_bind (wpAny_point (h s Q E R k))
theorem Tri.release {vs ks:List Value} {f:Unit→Sem β} {q:List OA→β→Prop} (h:Tri x ρ st (f ()) st₁ q):Tri x ρ st (release vs ks>>=f) st₁ q:=fun s Q E R k=>wpAny_bind (wpAny_release (h s Q E R k))
theorem Tri.operate {vs:List Value} {t:Sem Value} {p:List OA→Value→Prop} (h:Tri x ρ st t st₁ p):Tri x ρ st (operate vs t) st₁ p:=fun s Q E R k=>wpAny_operate' (h s Q E R k)
theorem Tri.onRaise {t:Sem α} {f:Value→Sem Unit} {p:List OA→α→Prop} (h:Tri x ρ st t st₁ p):Tri x ρ st (t.onRaise f) st₁ p:=fun s Q E R k=>wpAny_onRaise (h s Q _ R k)
theorem Tri.letTemp {base:Expr} {o r:Value} {f:Unit→Sem β} {q:List OA→β→Prop} (h:Tri x ρ st (f ()) st₁ q):Tri x ρ st (letTemporaryGo base o r>>=f) st₁ q:=
 fun s Q E R k=>wpAny_bind (to1 (wpAny_letTemporaryGo (h s Q E R k)))
theorem Tri.ite {c:Prop} [Decidable c] {a b:Sem α} {p:List OA→α→Prop} (h:if c then Tri x ρ st a st₁ p else Tri x ρ st b st₁ p):Tri x ρ st (if c then a else b) st₁ p:=by
 split<;>simp_all
theorem Tri.leaf {t:Sem α} {p:List OA→α→Prop} (h:∀(s:Shared) (Q:α→Shared→Prop) (E:Value→Shared→Prop),Rel x.hb x.L x.fr ρ st s→(∀a tk,p ρ a→Q a {s with toks:=tk})→wpAny (mx x) x.A t Q E s):Tri x ρ st t st p:=
 fun s Q E R k=>gK R.tk (h s _ _ R fun a tk pa ht=>k a _ ρ (R.toks ht) ((Next.refl ..).toks tk) pa)
end
inductive AFlow where
 |next|brk|cont
 |ret (v:AV)
noncomputable def fden (ρ:List OA):AFlow→Flow→Prop
 | .next,f=>f= .next
 | .brk,f=>f= .brk
 | .cont,f=>f= .cont
 | .ret a,f=>∃v,f= .ret v∧den ρ a v
theorem Ext.fden {ρ ρ':List OA} (x:Ext ρ ρ') {a:AFlow} {v:Flow} (h:fden ρ a v):Mine.fden ρ' a v:=by
 cases a with
 |ret a=>obtain⟨u,rfl,h⟩:=h;exact⟨u,rfl,x.den h⟩
 |_=>exact h
section
variable (K:Params→Frag)
noncomputable def DoesE (n:Nat) (sc:Scope) (e:Expr) (st:AS) (v:AV) (st':AS):Prop:=∀x:Cx,x.Ok K n sc→∀ρ,Tri x ρ st (eval e x.env) st' fun ρ' r=>den ρ' v r
noncomputable def cW (n:Nat) (sc:Scope) (e:Expr) (st:AS) (b:Bool) (st':AS):Prop:=∀x:Cx,x.Ok K n sc→∀ρ,Tri x ρ st (isTrue e x.env (eval e x.env)) st' fun zz r=>r=b
noncomputable def DoesS (n:Nat) (sc:Scope) (e:Stmt) (st:AS) (f:AFlow) (st':AS):Prop:=∀x:Cx,x.Ok K n sc→∀ρ,Tri x ρ st (exec e x.env) st' fun ρ' r=>fden ρ' f r
noncomputable def DoesB (n:Nat) (sc:Scope) (e:List Stmt) (st:AS) (f:AFlow) (st':AS):Prop:=∀x:Cx,x.Ok K n sc→∀ρ,Tri x ρ st (execs e x.env) st' fun ρ' r=>fden ρ' f r
noncomputable abbrev cY (ρ:List OA) (kws:List (Str×AV)) (kvs:List (Str×Value)):Prop:=All2 (fun a b=>a.1=b.1∧den ρ a.2 b.2) kws kvs
noncomputable def DoesCall (n:Nat) (f:Value) (args:List AV) (kws:List (Str×AV)) (objs:List AO) (v:AV) (objs':List AO):Prop:=
 ∀x:Cx,x.Run K n→∀loc ρ vs kvs,All2 (den ρ) args vs→cY ρ kws kvs→Tri x ρ ⟨loc,objs⟩ (call f vs kvs) ⟨loc,objs'⟩ fun ρ' r=>den ρ' v r
noncomputable def DoesCode (n:Nat) (f:Value) (args:List AV) (kws:List (Str×AV)) (objs:List AO) (v:AV) (objs':List AO):Prop:=
 ∀x:Cx,x.Run K n→∀loc ρ vs kvs,All2 (den ρ) args vs→cY ρ kws kvs→∀(s:Shared) (Q:Value→Shared→Prop) (E:Value→Shared→Prop),Rel x.hb x.L x.fr ρ ⟨loc,objs⟩ s→
  (∀a s' ρ',Rel x.hb x.L x.fr ρ' ⟨loc,objs'⟩ s'→Next x.L ρ s ρ' s'→den ρ' v a→Q a s')→
  codeAny (mx x) x.A (.call f ⟨vs,kvs⟩) (fun r s'=>match r with| .ok (.ret v)=>Q v s'| .ok _=>False| .error e=>E e s') s
end
theorem DoesCode.call {K:Params→Frag} {n:Nat} {f:Value} {args:List AV} {kws:List (Str×AV)} {objs:List AO} {v:AV} {objs':List AO} (h:DoesCode K n f args kws objs v objs'):DoesCall K n f args kws objs v objs':=
 fun x hx loc ρ vs kvs ha hk s Q E R kk=>wpAny_call (h x hx loc ρ vs kvs ha hk s Q E R kk)
theorem DoesCall.le {K:Params→Frag} {n m:Nat} {f:Value} {args:List AV} {kws:List (Str×AV)} {objs:List AO} {v:AV} {objs':List AO} (h:DoesCall K n f args kws objs v objs') (hm:n≤m):DoesCall K m f args kws objs v objs':=
 fun x hx=>h x (hx.le hm)
theorem Ext.kws {ρ ρ':List OA} (x:Ext ρ ρ') {l:List (Str×AV)} {vs:List (Str×Value)} (h:cY ρ l vs):cY ρ' l vs:=h.mono fun zz zz q=>⟨q.1,x.den q.2⟩
section
variable {K:Params→Frag} {n:Nat} {sc:Scope} {st st₁ st₂:AS}
theorem cM:DoesB K n sc [] st .next st:=fun x zz ρ=>Tri.pure rfl
theorem bD {s:Stmt} {r:List Stmt} {f:AFlow} (h:DoesS K n sc s st .next st₁) (k:DoesB K n sc r st₁ f st₂):DoesB K n sc (s::r) st f st₂:=fun x hx ρ=>by
 rw [arm_execs_cons]
 refine(h x hx ρ).bind fun ρ₁ a e p=> ?_
 have:a= .next:=p
 subst this
 exact k x hx ρ₁
theorem jR {s:Stmt} {r:List Stmt} {f:AFlow} (h:DoesS K n sc s st f st₁) (hf:f≠ .next):DoesB K n sc (s::r) st f st₁:=fun x hx ρ=>by
 rw [arm_execs_cons]
 refine(h x hx ρ).bind fun ρ₁ a e p=> ?_
 cases f with
 |next=>exact absurd rfl hf
 |brk=>have:a= .brk:=p;subst this;exact Tri.pure p
 |cont=>have:a= .cont:=p;subst this;exact Tri.pure p
 |ret v=>obtain⟨u,rfl,q⟩:=p;exact Tri.pure ⟨u,rfl,q⟩
theorem bP {l r:List Stmt} {f:AFlow} (h:DoesB K n sc l st .next st₁) (k:DoesB K n sc r st₁ f st₂):DoesB K n sc (l++r) st f st₂:=fun x hx ρ=>by
 have key:∀(l:List Stmt),execs (l++r) x.env=(do match←execs l x.env with| .next=>execs r x.env|f=>pure f):=by
  intro l
  induction l with
  |nil=>rw [List.nil_append,arm_execs_nil];rfl
  |cons s l ih=>
   rw [List.cons_append,arm_execs_cons,arm_execs_cons,ih]
   show Sem.bind _ _=Sem.bind (Sem.bind _ _) _
   rw [Sem.bind_assoc]
   congr
   funext a
   cases a<;>rfl
 rw [key]
 refine(h x hx ρ).bind fun ρ₁ a e p=> ?_
 have:a= .next:=p
 subst this
 exact k x hx ρ₁
end
end Mine
end
section
namespace Mine
theorem zW {ρ:List OA} {name:Str}:∀{fs:List (Str×AV)} {es:List DictEntry},FRel ρ fs es→
  match look name fs with
  |some a=>∃v,getL name es=some (some v)∧den ρ a v
  |none=>getL name es=some none:=by
 intro fs es h
 induction h with
 |nil=>simp [look,getL]
 | @cons f e fs es hp h ih=>
  obtain⟨n,a⟩:=f
  obtain⟨⟨t,hk⟩,hd⟩:=hp
  have hs:e.key.isStr name=sEq n name:=by
   rw [hk]
   show(n==name)=_
   cases q:sEq n name with
   |true=>rw [sEq_iff]at q;subst q;simp
   |false=>rw [sEq_ne]at q;simpa using q
  have hr:e.refKey=false:=by
   obtain⟨_,k,_⟩:=e
   simp only at hk
   subst hk
   rfl
  unfold look
  cases q:sEq n name with
  |true=>
   refine⟨e.val, ?_,hd⟩
   unfold getL
   rw [List.find?_cons,hs,q]
  |false=>
   have e':getL name (e::es)=getL name es:=by
    unfold getL
    rw [List.find?_cons,hs,q,List.any_cons,hr,Bool.false_or]
   rw [e']
   exact ih
theorem FRel.putL {ρ:List OA} {name:Str} {a:AV} {v:Value} {hsh:Int} {t:Tok} (d:den ρ a v):∀{fs:List (Str×AV)} {es:List DictEntry},FRel ρ fs es→FRel ρ (put name a fs) (putL name hsh (.str name t) v es):=by
 intro fs es h
 induction h with
 |nil=>exact .cons ⟨⟨t,rfl⟩,d⟩ .nil
 | @cons f e fs es hp h ih=>
  obtain⟨n,b⟩:=f
  obtain⟨⟨t',hk⟩,hd⟩:=hp
  have hs:e.key.isStr name=sEq n name:=by
   rw [hk]
   show(n==name)=_
   cases q:sEq n name with
   |true=>rw [sEq_iff]at q;subst q;simp
   |false=>rw [sEq_ne]at q;simpa using q
  unfold put PySem.W.putL
  rw [hs]
  cases q:sEq n name with
  |true=>exact .cons ⟨⟨t',hk⟩,d⟩ h
  |false=>exact .cons ⟨⟨t',hk⟩,hd⟩ ih
noncomputable def AV.plain:AV→Bool
 | .val _=>false
 |_=>true
theorem AV.plain_handed {ρ:List OA} {a:AV} {v:Value} (h:a.plain=true) (d:den ρ a v):handedIn v=true:=by
 cases a with
 |none=>cases d;rfl
 |bool b=>cases d;rfl
 |int i=>obtain⟨t,rfl⟩:=d;rfl
 |isym i=>obtain⟨t,rfl⟩:=d;rfl
 |str i=>obtain⟨⟨t,rfl⟩,_⟩:=d;rfl
 |sym e i=>obtain⟨⟨t,rfl⟩,_⟩:=d;rfl
 |chr e i=>obtain⟨⟨t,rfl⟩,_⟩:=d;rfl
 |val u=>cases h
 |obj k=>obtain⟨x,_,rfl⟩:=d;rfl
noncomputable def sI (K:Frag) (C:Addr) (name:Str):Bool:=plainGet K C name&&hasDictIn K C&&findIn K (.ref C) name==some none
noncomputable def oF (K:Frag) (C:Addr) (name:Str):Bool:=hasDictIn K C&&findIn K (.ref C) "__setattr__"==some (some (.builtin "object.__setattr__"))&&plainOver K C&&takerIn K C name==some none
section
variable {K:Params→Frag} {n:Nat} {x:Cx} {ρ:List OA} {st:AS} {k:Nat} {C:Addr} {fs:List (Str×AV)} {name:Str} {a:AV} {v u:Value}
theorem jN {h:Heap} {y:OA} {dx:Addr} {es:List DictEntry} {m:Nat} (h1:h.get? y.a=some (instObj C dx)) (h2:h.get? dx=some (dictOf es m)):InstAt h y.a (instObj C dx) C (some (dictOf es m)):=⟨h1,rfl,rfl,h2⟩
theorem Rel.inst {hb:Heap} {L:Addr} {fr:List Env} {s:Shared} (R:Rel hb L fr ρ st s) (ho:st.objs[k]?=some (.inst C fs)) (d:den ρ (.obj k) v):
  ∃(y:OA) (dx:Addr) (es:List DictEntry) (m:Nat),ρ[k]?=some y∧v= .ref y.a∧y.d=some dx∧s.heap.get? y.a=some (instObj C dx)∧s.heap.get? dx=some (dictOf es m)∧FRel ρ fs es:=by
 refine aF fun gq hgq=> ?_
 refine aH (R.objs k _ ho) fun y hy r=> ?_
 refine aH d fun z hz q2_=> ?_;subst q2_
 rw [hy]at hz
 obtain rfl:=Option.some.inj hz
 refine yT r fun dx es m a b c e=> ?_
 subst hgq
 exact⟨y,dx,es,m,hy,rfl,a,b,c,e⟩
theorem aHk {expr:Bool} (hx:x.Run K n) (ho:st.objs[k]?=some (.inst C fs)) (hl:look name fs=some a) (hp:a.plain=true) (ok:sI (K x.w.params) C name=true) (d:den ρ (.obj k) v):
  Tri x ρ st (getAttr v name expr) st fun ρ' r=>den ρ' a r:=by
 refine Tri.leaf fun s Q E R kk=> ?_
 refine aF fun gq hgq=> ?_
 refine nW (R.inst ho d) fun y dx es m hy q5_ hd h1 h2 hf=> ?_;subst q5_
 subst hgq
 have hg:=zW (name:=name) hf
 rw [hl]at hg
 refine aH hg fun r hr dr=> ?_
 simp only [sI,Bool.and_eq_true,beq_iff_eq]at ok
 refine to1 (get_value (hx.glo.X.keeps R.base) (jN h1 h2) (plainGet_of ok.1.1).1 (findObj_own ok.1.2 ok.2 rfl hr) (AV.plain_handed hp dr) ?_)
 exact kk r _ dr
theorem qQ (name:Str) (hsh:Int) (key v:Value):∀es:List DictEntry,(putL name hsh key v es).length≤es.length+1
 |[]=>by simp [putL]
 |a::r=>by
  have ih:=qQ name hsh key v r
  unfold putL
  split
  ·simp
  ·simp only [List.length_cons];lia
theorem aI2 {prog:Program} {w:World} {A:Around} {s:Shared} {K:Frag} {y dx:Addr} {es:List DictEntry} {m:Nat} {Q:Unit→Shared→Prop} {E:Value→Shared→Prop} (X:K.In s.heap)
  (h1:s.heap.get? y=some (instObj C dx)) (h2:s.heap.get? dx=some (dictOf es m)) (ok:oF K C name=true) (hl:(getL name es).isSome=true) (hz:es.length≤900)
  (h:Q () {s with heap:=s.heap.update dx (Obj.putName name (PyData.keyHash w.params name) (.str name (s.toks+1)) v),toks:=s.toks+2}):wpAny (model prog w) A (setAttr (.ref y) name v) Q E s:=by
 simp only [oF,Bool.and_eq_true,beq_iff_eq]at ok
 obtain⟨⟨⟨ok1,ok2⟩,ok3⟩,ok4⟩:=ok
 have I:InstAt s.heap y (instObj C dx) C (some (dictOf es m)):=⟨h1,rfl,rfl,h2⟩
 refine set_plain X I ok2 (osa_open (s:={s with toks:=s.toks+1}) X I ok3 ok4 fun b=> ?_)
 refine aH (any_some ok1) fun cd hc hd'=> ?_
 refine wpAny_bind (wpAny_pure (wpAny_bind (wpAny_bind (wpAny_loadPart h1 (wpAny_bind ((looks_clsIn X hc) _ _ _ _ (fun zz zz e=>e) ?_))))))
 rw [hd']
 refine wpAny_pure (a:=some dx) (wpAny_bind (wpAny_pure (wpAny_bind ?_)))
 unfold nsSet
 refine wpAny_bind (wpAny_bind (wpAny_askSetting (wpAny_pure (wpAny_bind (wpAny_mkText (wpAny_bind (wpAny_loadPart h2 ?_)))))))
 have c:(!es.toArray.any (·.key.isStr name)&&es.toArray.any (·.refKey))=false:=by
  rw [←Array.any_toList,←Array.any_toList]
  unfold getL at hl
  split at hl
  ·rename_i en he
   rw [List.any_eq_true.mpr ⟨en,List.mem_of_find?_eq_some he,List.find?_some he⟩];rfl
  ·split at hl
   ·cases hl
   ·rename_i z;rw [Bool.not_eq_true]at z;rw [z,Bool.and_false]
 dsimp only
 rw [aRefKeyMayBeTheName_at,c]
 refine wpAny_updatePart h2 ?_
 have e:Obj.putName name (PyData.keyHash w.params name) (.str name (s.toks+1)) v (dictOf es m)=dictOf (putL name (PyData.keyHash w.params name) (.str name (s.toks+1)) v es) (putN name es m):=putName_dict ..
 have hlen:=qQ name (PyData.keyHash w.params name) (.str name (s.toks+1)) v es
 have D':(s.heap.update dx (Obj.putName name (PyData.keyHash w.params name) (.str name (s.toks+1)) v)).get? dx=some (dictOf (putL name (PyData.keyHash w.params name) (.str name (s.toks+1)) v es) (putN name es m)):=by
  rw [Heap.get?_update_self _ h2 (by rw [e];rfl),e]
 refine wpAny_bind (wpAny_lookBehind D' ?_ ?_)
 ·exact pastItsLine_dict (by rw [List.size_toArray,sizeLine_eq];lia)
 ·exact wpAny_pure h
theorem aHf (hx:x.Run K n) (ho:st.objs[k]?=some (.inst C fs)) (hz:fs.length≤900) (ok:oF (K x.w.params) C name=true) (d:den ρ (.obj k) v) (du:den ρ a u):
  Tri x ρ st (setAttr v name u) {st with objs:=st.objs.set k (.inst C (put name a fs))} fun zz zz=>True:=by
 intro s Q E R kk
 refine aF fun gq hgq=> ?_
 refine nW (R.inst ho d) fun y dx es m hy q5_ hd h1 h2 hf=> ?_;subst q5_
 subst hgq
 have hg:=zW (name:=name) hf
 have hl:(getL name es).isSome=true:=by
  cases q:look name fs with
  |none=>rw [q]at hg;rw [hg];rfl
  |some b=>rw [q]at hg;obtain⟨r,hr,_⟩:=hg;rw [hr];rfl
 refine to1 (aI2 (hx.glo.X.keeps R.base) h1 h2 ok hl (by rw [←hf.length];exact hz) ?_)
 have hmem:dx∈y.a::y.d.toList:=by rw [hd];simp
 have hne:dx≠y.a:=by
  have hn:=(List.nodup_cons.mp R.apart).2
  refine iK (List.append_of_mem (List.mem_of_getElem? hy)) fun l1 l2 e=> ?_
  rw [e,aL]at hn
  have:=(List.nodup_append.mp hn).2.1
  have e2:aS (y::l2)=y.a::dx::aS l2:=by simp [aS,hd]
  rw [e2]at this
  intro q
  have:=(List.nodup_cons.mp this).1
  exact this (by rw [q];simp)
 refine kk () _ ρ ((R.turn hy hmem ?_).toks (Nat.succ_pos _)) ((Next.turn hy hmem).toks _) trivial
 refine⟨dx,putL name (PyData.keyHash x.w.params name) (.str name (s.toks+1)) u es,putN name es m,hd, ?_, ?_,hf.putL du⟩
 ·rw [Heap.get?_update_other _ _ hne];exact h1
 ·rw [Heap.get?_update_self _ h2 (by rw [putName_dict];rfl),putName_dict]
end
end Mine
end
section
namespace Mine
noncomputable def iO (K:Frag) (y:Str) (v:Value):Prop:=nsIn K mainGlobals y=some (some v)∨(nsIn K mainGlobals y=some none∧bootBuiltins y=some v∧y≠"__name__")
section
variable {K:Params→Frag} {n:Nat} {sc:Scope} {x:Cx} {ρ:List OA} {st:AS} {y:Str} {a:AV} {v:Value} {pos:Pos}
theorem aHi (hx:x.Ok K n sc) (hk:sc.names.lookup y=some .local) (hl:look y st.loc=some a) (hd:(y==("__debug__":Str))=false):Tri x ρ st (eval (.Name y pos) x.env) st fun ρ' r=>den ρ' a r:=by
 refine Tri.leaf fun s Q E R kk=> ?_
 refine aH (R.loc) fun m hn hl'=> ?_
 refine aH (hl' y a hl) fun v hv d=> ?_
 refine wpAny_Name (wpAny_loadName_local (by rw [hx.scope];exact hx.kind) (by show x.env.scope.names.lookup y=_;rw [hx.scope];exact hk) (by rw [hx.locals];exact hn) hv ?_) hd
 exact kk v s.toks d
theorem sT (hx:x.Ok K n sc) (hk:sc.names.lookup y=some .globalImplicit) (hg:iO (K x.w.params) y v) (hd:(y==("__debug__":Str))=false):Tri x ρ st (eval (.Name y pos) x.env) st fun ρ' r=>den ρ' (.val v) r:=by
 refine Tri.leaf fun s Q E R kk=> ?_
 refine vV (hx.glo.T) fun p loose mean mg mb T=> ?_
 refine Name_function_global (by rw [hx.scope];exact hx.kind) (by show x.env.scope.names.lookup y=_;rw [hx.scope];exact hk) ?_ hd
 have h1:s.heap.Ns x.env.globals mg:=by rw [hx.globals];exact T.g.keeps R.base
 have h2:s.heap.Ns x.env.builtins mb:=by rw [hx.builtins];exact T.b.keeps R.base
 rcases hg with e|⟨e,hv,hn⟩
 ·exact loadGlobal_global h1 (mg_of hx.glo.X T.g e) (kk v s.toks rfl)
 ·exact loadGlobal_builtin h1 (mg_none_of hx.glo.X T.g e) h2 ((T.builtins y hn).trans hv) (kk v s.toks rfl)
theorem cI (hx:x.Ok K n sc) (hk:sc.names.lookup y=some .local) (d:den ρ a v):Tri x ρ st (bindName x.env y v) {st with loc:=put y a st.loc} fun zz zz=>True:=by
 intro s Q E R kk
 refine aH (R.loc) fun m hn hl=> ?_
 refine wpAny_bindName (wpAny_storeName_local (by show x.env.scope.names.lookup y=_;rw [hx.scope];exact hk) (by rw [hx.locals];exact hn) (fun h' hn' hs=> ?_) ?_)
 ·rw [hx.locals]at hn' hs
  exact kk () _ ρ (R.store hl hn' hs d (Nat.succ_pos _)) (Next.store hs _) trivial
 ·rw [hx.scope,hx.kind];rfl
noncomputable def sJ:Const→Option AV
 | .none=>some .none
 | .bool b=>some (.bool b)
 | .int i=>some (.int i)
 | .str s=>match Nat.ble s.cps.toList.length 1000 with
  |true=>some (.str s)
  |false=>none
 |_=>none
theorem iT {env:Env} {c:Const} {k:Nat} (h:sJ c=some a):Tri x ρ st (eval (.Constant c k pos) env) st fun ρ' r=>den ρ' a r:=by
 have w:match sJ c with|some a=>Tri x ρ st (eval (.Constant c k pos) env) st fun ρ' r=>den ρ' a r|none=>True:=by
  cases c with
  |none=>exact Tri.leaf fun s Q E R kk=>wpAny_Constant_none (kk _ s.toks rfl)
  |bool b=>exact Tri.leaf fun s Q E R kk=>wpAny_Constant_bool (kk _ s.toks rfl)
  |int i=>exact Tri.leaf fun s Q E R kk=>wpAny_Constant_int (kk _ _ ⟨_,rfl⟩)
  |str s=>
   unfold sJ
   cases q:Nat.ble s.cps.toList.length 1000 with
   |true=>
    have hz:s.cps.size≤sizeLine:=by rw [←Array.length_toList,sizeLine_eq];exact Nat.le_trans (Nat.le_of_ble_eq_true q) (by decide)
    dsimp only
    rw [q]
    exact Tri.leaf fun s' Q E R kk=>wpAny_Constant_str (kk _ _ ⟨⟨_,rfl⟩,hz⟩)
   |false=>dsimp only;rw [q];trivial
  |_=>trivial
 rw [h]at w
 exact w
end
theorem aFj {prog:Program} {w:World} {A:Around} {R:Result→Shared→Prop} {s:Shared} {body:List Stmt} {env:Env}
  (h:wpAny (aP prog w) (A.deeper env) (execs body env) (fun f s'=>R (.ok (.ret (match f with| .ret v=>v|_=>.none))) s')
   (fun e s'=>wpAny (aP prog w) (A.deeper env) (leaving env e) (fun zz s''=>R (.error e) s'') (fun e' s''=>R (.error e') s'') s') s):
  codeAny (aP prog w) A (.func body env) R s:=by
 refine codeAny_of_tree ?_
 show wpAny _ (A.deeper env) (do point;match←(execs body env).onRaise (leaving env)with| .ret v=>ret v|_=>ret .none) _ _ s
 refine wpAny_bind (wpAny_point (wpAny_bind (wpAny_onRaise (wpAny_mono h (fun f s' h'=> ?_) fun zz zz h'=>h'))))
 cases f<;>exact wpAny_pure h'
theorem yL {prog:Program} {w:World} {A:Around} {Post:Fin→Shared→Prop} {E:Value→Shared→Prop} {s s₂:Shared} {f:Addr} {args:Args} {o:Obj} {fd:FuncData} {body:List Stmt} {binds:List (Str×Value)}
  (hroom:A.depth<recursionLimit) (ho:s.heap.get? f=some o) (hd:o.data= .func fd) (hlim:s₂.heap.NoLimit) (hcd:s.heap.CodeRec fd.code fd.qualname) (hbody:fd.body= .stmts body)
  (hbind:∀(A:Around) (E:Value→Shared→Prop) (Q:List (Str×Value)→Shared→Prop),Q binds s₂→wpAny (aP prog w) A (bindArgs fd args) Q E s) (hco:fd.scope.isCoroutine=false) (hgen:fd.scope.isGenerator=false) (hk:fd.scope.kind= .function) (hcell:∀x∈fd.scope.names,x.2≠ .cell)
  (hloc:∀x∈binds,fd.scope.names.lookup x.1=some .local)
  (h:∀h',h'.Ns s₂.heap.objs.size (fun y=>binds.reverse.lookup y)→(∀b o,s₂.heap.get? b=some o→h'.get? b=some o)→h'.objs.size=s₂.heap.objs.size+1→
   Post (.again (.func body (newEnv fd.scope s₂.heap.objs.size fd.globals fd.closure (fd.qualname++".<locals>.") (some f) fd.code none fd.builtins))) {s₂ with heap:=h',toks:=s₂.toks+binds.length}):wpAny (aP prog w) A.in1 (callAny (.ref f) args) Post E s:=by
 simp only [callAny]
 refine wpAny_bind (wpAny_load ho ?_)
 refine aF fun gq hgq=> ?_
 refine aP3 hcd fun c oc vs tq hc hoc hdc hq=> ?_
 subst hgq
 simp only [hd,callFunction,hco,hgen,hbody,hc]
 refine wpAny_bind (m:=field (.ref c) 1) (wpAny_field hoc hdc hq (wpAny_bind (wpAny_pure ?_)))
 rw [hc]at h
 refine wpAny_bind (hbind _ _ _ (wpAny_bind (wpAny_newFunctionEnv hcell hloc (fun h' hns hsb=> ?_) hk)))
 refine wpAny_bind (wpAny_enterFrame (hlim.fresh _ hsb) hroom (wpAny_pure (h h' hns (fun b o e=> ?_) ?_)))
 ·exact hsb.extBut b o (Nat.ne_of_lt (Heap.lt_size e)) (Heap.get?_push_of_some _ e)
 ·rw [hsb.1,Heap.size_push]
theorem rL {prog:Program} {w:World} {A:Around} {R:Result→Shared→Prop} {s s₂:Shared} {f:Addr} {args:Args} {o:Obj} {fd:FuncData} {body:List Stmt} {binds:List (Str×Value)}
  (hroom:A.depth<recursionLimit) (ho:s.heap.get? f=some o) (hd:o.data= .func fd) (hlim:s₂.heap.NoLimit) (hcd:s.heap.CodeRec fd.code fd.qualname) (hbody:fd.body= .stmts body)
  (hbind:∀(A:Around) (E:Value→Shared→Prop) (Q:List (Str×Value)→Shared→Prop),Q binds s₂→wpAny (aP prog w) A (bindArgs fd args) Q E s) (hco:fd.scope.isCoroutine=false) (hgen:fd.scope.isGenerator=false) (hk:fd.scope.kind= .function) (hcell:∀x∈fd.scope.names,x.2≠ .cell)
  (hloc:∀x∈binds,fd.scope.names.lookup x.1=some .local)
  (h:∀h',h'.Ns s₂.heap.objs.size (fun y=>binds.reverse.lookup y)→(∀b o,s₂.heap.get? b=some o→h'.get? b=some o)→h'.objs.size=s₂.heap.objs.size+1→
   wpAny (aP prog w) (A.deeper (newEnv fd.scope s₂.heap.objs.size fd.globals fd.closure (fd.qualname++".<locals>.") (some f) fd.code none fd.builtins))
    (execs body (newEnv fd.scope s₂.heap.objs.size fd.globals fd.closure (fd.qualname++".<locals>.") (some f) fd.code none fd.builtins))
    (fun fl s'=>R (.ok (.ret (match fl with| .ret v=>v|_=>.none))) s')
    (fun e s'=>wpAny (aP prog w) (A.deeper (newEnv fd.scope s₂.heap.objs.size fd.globals fd.closure (fd.qualname++".<locals>.") (some f) fd.code none fd.builtins))
     (leaving (newEnv fd.scope s₂.heap.objs.size fd.globals fd.closure (fd.qualname++".<locals>.") (some f) fd.code none fd.builtins) e) (fun zz s''=>R (.error e) s'') (fun e' s''=>R (.error e') s'') s')
    {s₂ with heap:=h',toks:=s₂.toks+binds.length}):codeAny (aP prog w) A (.call (.ref f) args) R s:=codeAny_of_tree (yL (Post:=fun fin s'=>match fin with| .done f=>R (.ok f) s'| .again c'=>c'.quiet=true∧codeAny (aP prog w) A c' R s') hroom ho hd hlim hcd hbody hbind hco hgen hk hcell hloc fun h' a b c=>⟨rfl,aFj (h h' a b c)⟩)
structure Fn (K:Params→Frag) (f:Addr) (sc:Scope) (body:List Stmt) (fd:Params→FuncData):Prop where
 at_:∀P,((K P).lookup f).map (·.data)=some (.func (fd P))
 code:∀P,codeIn (K P) (fd P).code (fd P).qualname=true
 body:∀P,(fd P).body= .stmts body
 scope:∀P,(fd P).scope=sc
 globals:∀P,(fd P).globals=mainGlobals
 builtins:∀P,(fd P).builtins=builtinsNs
 plain:sc.isCoroutine=false∧sc.isGenerator=false∧sc.kind= .function∧∀x∈sc.names,x.2≠ .cell
noncomputable def aBk:AFlow→Option AV
 | .next=>some .none
 | .ret v=>some v
 |_=>none
noncomputable def kV:List (Str×AV)→Bool
 |[]=>true
 |(n,_)::r=>r.all (fun y=> !sEq y.1 n)&&kV r
theorem oW {n:Str}:∀{l:List (Str×AV)},l.all (fun y=> !sEq y.1 n)=true→look n l=none
 |[],_=>rfl
 |(m,a)::r,h=>by
  simp only [List.all_cons,Bool.and_eq_true,Bool.not_eq_true']at h
  unfold look
  rw [h.1]
  exact oW h.2
theorem lS {ρ:List OA} {l:List (Str×AV)} {b:List (Str×Value)} (h:cY ρ l b) (hn:kV l=true):LocRel ρ l fun y=>b.reverse.lookup y:=by
 have key:∀{l:List (Str×AV)} {b:List (Str×Value)},cY ρ l b→kV l=true→∀y acc,(look y l=none→b.reverse.lookup y=none)∧(∀a,look y l=some a→∃v,(b.reverse++acc).lookup y=some v∧den ρ a v):=by
  intro l b h
  induction h with
  |nil=>intro _ y acc;exact⟨fun zz=>rfl,fun a e=>by cases e⟩
  | @cons p q l b hp h ih=>
   intro hn y acc
   refine aF fun gq hgq=> ?_
   obtain⟨n,a⟩:=p
   obtain⟨m,v⟩:=q
   refine cK hp fun q0_ d=> ?_;subst q0_
   simp only [kV,Bool.and_eq_true]at hn
   subst hgq
   have ih:=ih hn.2
   dsimp only at d
   rw [List.reverse_cons]
   unfold look
   by_cases hy:n=y
   ·subst hy
    rw [sEq_iff.mpr rfl]
    refine⟨fun e=>(nomatch e),fun a' e=> ?_⟩
    obtain rfl:=Option.some.inj e
    have hno:=(ih n []).1 (oW hn.1)
    refine⟨v, ?_,d⟩
    rw [List.append_assoc,List.lookup_append,hno]
    simp
   ·rw [sEq_ne.mpr hy]
    refine⟨fun e=> ?_,fun a' e=> ?_⟩
    ·rw [List.lookup_append,(ih y []).1 e]
     have:(y==n)=false:=by simpa using Ne.symm hy
     simp [List.lookup,this]
    ·refine aH ((ih y ([(n,v)]++acc)).2 a' e) fun v' h1 h2=> ?_
     exact⟨v',by rw [List.append_assoc];exact h1,h2⟩
 intro y a q
 refine aH ((key h hn y []).2 a q) fun v h1 h2=> ?_
 rw [List.append_nil]at h1
 exact⟨v,h1,h2⟩
noncomputable def aQw (f:Flow):Value:=match f with| .ret v=>v|_=>.none
theorem aGa {ρ:List OA} {fl:AFlow} {fl':Flow} {v:AV} (h:fden ρ fl fl') (hr:aBk fl=some v):den ρ v (aQw fl'):=by
 cases fl with
 |next=>have:fl'= .next:=h;subst this;cases hr;rfl
 |ret a=>obtain⟨u,rfl,q⟩:=h;cases hr;exact q
 |brk=>cases hr
 |cont=>cases hr
theorem uF {ρ:List OA} {sc:Scope} {l:List (Str×AV)} {b:List (Str×Value)} (h:cY ρ l b):(l.all fun y=>decide (sc.names.lookup y.1=some .local))=true→∀y∈b,sc.names.lookup y.1=some .local:=by
 induction h with
 |nil=>intro _ y hy;cases hy
 |cons hp h ih=>
  intro hl y hy
  rw [List.all_cons,Bool.and_eq_true]at hl
  rcases List.mem_cons.mp hy with rfl|hy
  ·rw [←hp.1];exact of_decide_eq_true hl.1
  ·exact ih hl.2 y hy
noncomputable abbrev sK (fd:FuncData) (f L:Addr):Env:=newEnv fd.scope L fd.globals fd.closure (fd.qualname++".<locals>.") (some f) fd.code none fd.builtins
noncomputable abbrev aM1 (x:Cx) (fd:FuncData) (f L:Addr):Cx:=⟨x.w,x.hb,x.A.deeper (sK fd f L),sK fd f L,L,sK fd f L::x.fr⟩
theorem zH {K:Params→Frag} {n:Nat} {x:Cx} (hx:x.Run K (n+1)):x.A.depth<recursionLimit:=by have:=hx.bud.1;lia
theorem pD {K:Params→Frag} {n:Nat} {f:Addr} {sc:Scope} {body:List Stmt} {fd:Params→FuncData} (F:Fn K f sc body fd) {x:Cx} (hx:x.Run K (n+1)) {L:Addr}:(aM1 x (fd x.w.params) f L).Ok K n sc:=
 ⟨⟨hx.glo,by show(x.A.frames.map _)=_;rw [hx.frames];rfl,⟨by have:=hx.bud.1;show x.A.depth+1+2*n+2≤_;lia,by have:=hx.bud.2;show x.A.units+3+40*n+40≤_;lia⟩,hx.handled⟩,F.scope _,F.plain.2.2.1,rfl,F.globals _,F.builtins _⟩
theorem qE {K:Params→Frag} {f:Addr} {sc:Scope} {body:List Stmt} {fd:Params→FuncData} (F:Fn K f sc body fd) {P:Params} {hb h':Heap} {L:Addr} {fr:List Env} {ρ:List OA} {cloc loc:List (Str×AV)} {objs:List AO} {s:Shared} {m:Str→Option Value} {k:Nat}
  (R:Rel hb L fr ρ ⟨cloc,objs⟩ s) (hn':h'.Ns s.heap.objs.size m) (hk':∀b o,s.heap.get? b=some o→h'.get? b=some o) (hloc:LocRel ρ loc m):
  Rel hb s.heap.objs.size (sK (fd P) f s.heap.objs.size::fr) ρ ⟨loc,objs⟩ {s with heap:=h',toks:=s.toks+k}:=by
 have hbs:hb.get? s.heap.objs.size=none:=by
  cases q:hb.get? s.heap.objs.size with
  |none=>rfl
  |some o=>exact absurd (Heap.lt_size (R.base _ o q)) (Nat.lt_irrefl _)
 have RG:=R.grow hk'
 refine⟨RG.base,⟨_,hn',hloc⟩,hbs,R.len,RG.objs,List.nodup_cons.mpr ⟨fun q=>absurd (R.at_lt _ q) (Nat.lt_irrefl _),(List.nodup_cons.mp R.apart).2⟩,R.new,fun e he=> ?_,Nat.lt_of_lt_of_le R.tk (Nat.le_add_right _ _)⟩
 rcases List.mem_cons.mp he with rfl|he
 ·refine aJw hn' fun oL es ep h1 h2 zz=>⟨?_,s.heap.objs.size,oL,es,ep,rfl,hbs,fun q=>absurd (R.at_lt _ q) (Nat.lt_irrefl _),h1,h2⟩
  show(fd P).scope.kind≠_
  rw [F.scope P,F.plain.2.2.1]
  decide
 ·exact RG.frs e he
theorem pY {hb h':Heap} {L:Addr} {env:Env} {fr:List Env} {ρ ρ':List OA} {cloc loc':List (Str×AV)} {objs objs':List AO} {s s':Shared} {k:Nat} (R:Rel hb L fr ρ ⟨cloc,objs⟩ s) (hk':∀b o,s.heap.get? b=some o→h'.get? b=some o)
  (R2:Rel hb s.heap.objs.size (env::fr) ρ' ⟨loc',objs'⟩ s') (N2:Next s.heap.objs.size ρ {s with heap:=h',toks:=k} ρ' s'):Rel hb L fr ρ' ⟨cloc,objs'⟩ s'∧Next L ρ s ρ' s':=by
 have keepL:∀b ob,s.heap.get? b=some ob→b∉aS ρ→KeptAt s'.heap b ob:=fun b ob e hb=>N2.keep b ob (hk' b ob e) (Nat.ne_of_lt (Heap.lt_size e)) hb
 have hLa:=(List.nodup_cons.mp R.apart).1
 refine aH N2.ext fun new q1 hnew=> ?_
 subst q1
 refine⟨⟨R2.base,aH R.loc fun m hns hml=>nX hns fun oL es ep h1 h2=>aH (keepL _ _ h1 hLa) fun oL' h1' kp=>⟨m,⟨oL',es,ep,h1',kp.data.trans h2.1,h2.2⟩,hml.mono⟩,R.above,R2.len,R2.objs, ?_,R2.new,fun e he=>R2.frs e (List.mem_cons_of_mem _ he),R2.tk⟩,
  ⟨⟨new,rfl,fun a ha o eo=>.inr ((hnew a ha o (hk' a o eo)).resolve_left (Nat.ne_of_lt (Heap.lt_size eo)))⟩,fun b ob e zz hb=>keepL b ob e hb,N2.gens,N2.os⟩⟩
 refine List.nodup_cons.mpr ⟨fun q=> ?_,(List.nodup_cons.mp R2.apart).2⟩
 rw [aL,List.mem_append]at q
 rcases q with q|q
 ·exact hLa q
 ·exact aH R.loc fun m hns hml=>aH9 hns fun oL es ep h=>hLa ((hnew _ q oL (hk' _ _ h.1)).resolve_left (Nat.ne_of_lt (Heap.lt_size h.1)))
theorem aD2 {K:Params→Frag} {n:Nat} {f:Addr} {sc:Scope} {body:List Stmt} {fd:Params→FuncData} (F:Fn K f sc body fd) {args:List AV} {kws:List (Str×AV)} {loc loc':List (Str×AV)} {objs objs':List AO} {fl:AFlow} {v:AV}
  (hb:∀(w:World) ρ vs kvs (s:Shared),(K w.params).In s.heap→All2 (den ρ) args vs→cY ρ kws kvs→∃binds h₂,(∀(A:Around) (E:Value→Shared→Prop) (Q:List (Str×Value)→Shared→Prop),Q binds {s with heap:=h₂}→wpAny (aP P0 w) A (bindArgs (fd w.params) ⟨vs,kvs⟩) Q E s)∧(∀b o,s.heap.get? b=some o→h₂.get? b=some o)∧
   (∀y∈binds,sc.names.lookup y.1=some .local)∧LocRel ρ loc fun y=>binds.reverse.lookup y)
  (h:DoesB K n sc body ⟨loc,objs⟩ fl ⟨loc',objs'⟩) (hr:aBk fl=some v):DoesCode K (n+1) (.ref f) args kws objs v objs':=by
 intro x hx cloc ρ vs kvs ha hk s0 Q E R0 kk
 refine vV (hx.glo.T) fun p loose mean mg mb T=> ?_
 have X0:=hx.glo.X.keeps R0.base
 refine aP4 (hb x.w ρ vs kvs s0 X0 ha hk) fun binds h₂ hbd hgr hlo hloc=> ?_
 have R:=R0.grow hgr
 refine aH (Option.map_eq_some_iff.mp (F.at_ x.w.params)) fun o ho hd=> ?_
 have hp:=F.plain
 have hsc:=F.scope x.w.params
 refine rL (s₂:={s0 with heap:=h₂}) (zH hx) (X0 _ _ ho) hd (T.nolimit.keeps R.base) (codeRec_of X0 (F.code _)) (F.body _) hbd (by rw [hsc];exact hp.1) (by rw [hsc];exact hp.2.1) (by rw [hsc];exact hp.2.2.1) (by rw [hsc];exact hp.2.2.2) (fun y hy=>by rw [hsc];exact hlo y hy) fun h' hn' hk' hz'=> ?_
 refine h _ (pD F hx) ρ _ _ _ (qE F R hn' hk' hloc) fun fl' s' ρ' R2 N2 hfl=> ?_
 refine cK (pY R hk' R2 N2) fun Rr hN=> ?_
 exact kk _ s' ρ' Rr ((Next.grow (L:=x.L) (ρ:=ρ) (s:=s0) hgr).trans hN) (aGa hfl hr)
theorem lZ {K:Params→Frag} {n:Nat} {f:Addr} {sc:Scope} {body:List Stmt} {fd:Params→FuncData} (F:Fn K f sc body fd) {args:List AV} {kws:List (Str×AV)} {loc loc':List (Str×AV)} {objs objs':List AO} {fl:AFlow} {v:AV}
  (hb:∀P ρ vs kvs,All2 (den ρ) args vs→cY ρ kws kvs→∃binds,(∀s:Shared,(K P).In s.heap→BindsTo s (fd P) ⟨vs,kvs⟩ binds)∧cY ρ loc binds)
  (hn:kV loc=true) (hl:(loc.all fun y=>decide (sc.names.lookup y.1=some .local))=true)
  (h:DoesB K n sc body ⟨loc,objs⟩ fl ⟨loc',objs'⟩) (hr:aBk fl=some v):DoesCode K (n+1) (.ref f) args kws objs v objs':=
 aD2 F (fun w ρ vs kvs s X ha hk=>aH (hb w.params ρ vs kvs ha hk) fun binds b1 b2=>⟨binds,s.heap,fun A E Q q=>b1 s X _ _ _ _ q,fun zz zz e=>e,uF b2 hl,lS b2 hn⟩) h hr
theorem bZ {K:Params→Frag} {n:Nat} {f:Addr} {sc:Scope} {body:List Stmt} {fd:Params→FuncData} (F:Fn K f sc body fd) {args:List AV} {kws:List (Str×AV)} {loc loc':List (Str×AV)} {objs objs':List AO} {fl:AFlow} {v:AV}
  (hb:∀P ρ vs kvs,All2 (den ρ) args vs→cY ρ kws kvs→∃binds,(∀s:Shared,(K P).In s.heap→BindsTo s (fd P) ⟨vs,kvs⟩ binds)∧cY ρ loc binds)
  (hn:kV loc=true) (hl:(loc.all fun y=>decide (sc.names.lookup y.1=some .local))=true)
  (h:DoesB K n sc body ⟨loc,objs⟩ fl ⟨loc',objs'⟩) (hr:aBk fl=some v):DoesCall K (n+1) (.ref f) args kws objs v objs':=(lZ F hb hn hl h hr).call
end Mine
end
section
namespace Mine
theorem gJ {a b:Bool} (h:(a&&b)=true):a=true∧b=true:=(Bool.and_eq_true _ _).mp h
theorem aJs {a b c:Bool} (h:(a&&b&&c)=true):a=true∧b=true∧c=true:=⟨(gJ (gJ h).1).1,(gJ (gJ h).1).2,(gJ h).2⟩
theorem aO7 {a b c d:Bool} (h:(a&&b&&c&&d)=true):a=true∧b=true∧c=true∧d=true:=⟨(aJs (gJ h).1).1,(aJs (gJ h).1).2.1,(aJs (gJ h).1).2.2,(gJ h).2⟩
theorem mV {p:Prop} (h:false=true):p:=nomatch h
theorem aOx {p:Prop} (h:true=false):p:=nomatch h
theorem bL {α:Type _} {x:α} {p:Prop} (h:none=some x):p:=nomatch h
inductive Td where
 |b (b:Bool)
 |c (v:AV) (objs:List AO)
 |e (v:AV) (st:AS)
 |s (f:AFlow) (st:AS)
 |v (a:AV)
noncomputable abbrev Way (α:Type):Type:=AS→List Td→Option (α×AS×List Td×List Prop)
noncomputable def rtn {α:Type} (a:α):Way α:=fun st td=>some (a,st,td,[])
noncomputable def bnd {α β:Type} (m:Way α) (f:α→Way β):Way β:=fun st td=>
 match m st td with
 |none=>none
 |some (a,st₁,td₁,o₁)=>match f a st₁ td₁ with
  |none=>none
  |some (b,st₂,td₂,o₂)=>some (b,st₂,td₂,o₁++o₂)
noncomputable def bad {α:Type}:Way α:=fun zz zz=>none
noncomputable def dec (p:Bool):Way Bool:=fun st td=>match td with
 | .b b::r=>some (b,st,r,[p=b])
 |_=>none
noncomputable def need (p:Prop):Way Unit:=fun st td=>some ((),st,td,[p])
noncomputable def getSt:Way AS:=fun st td=>some (st,st,td,[])
noncomputable def setSt (st:AS):Way Unit:=fun zz td=>some ((),st,td,[])
section
variable {α γ:Type}
noncomputable def opt (o:Option γ) (f:γ→Way α):Way α:=match o with|some c=>f c|none=>bad
noncomputable def grd (b:Bool) (m:Way α):Way α:=match b with|true=>m|false=>bad
noncomputable def els (o:Option γ) (f:γ→Way α) (g:Way α):Way α:=match o with|some c=>f c|none=>g
end
noncomputable def cS:AV→Option Str
 | .str x=>some x
 | .sym _ x=>some x
 | .chr _ c=>some ⟨#[c]⟩
 |_=>none
theorem bK {ρ:List OA} {a:AV} {v:Value} {x:Str} (h:cS a=some x) (d:den ρ a v):∃t,v= .str x t∧x.length≤sizeLine:=by
 have w:∀{y:Str},(∃t,v= .str y t)→y.length≤sizeLine→some y=some x→∃t,v= .str x t∧x.length≤sizeLine:=fun d hl e=>by
  cases e
  obtain⟨t,q⟩:=d
  exact⟨t,q,hl⟩
 cases a with
 |str y=>exact w d.1 d.2 h
 |sym e y=>exact w d.1 d.2.1 h
 |chr k c=>exact w d.1 (by show 1≤sizeLine;rw [sizeLine_eq];decide) h
 |_=>exact bL h
noncomputable def jZ:AV→Option Int
 | .int i=>some i
 | .isym i=>some i
 |_=>none
theorem dH {ρ:List OA} {a:AV} {v:Value} {x:Int} (h:jZ a=some x) (d:den ρ a v):∃t,v= .int x t:=by
 cases a with
 |int y|isym y=>exact Option.some.inj h▸d
 |_=>exact bL h
noncomputable def mF (c:Nat):List Nat→Bool
 |[]=>false
 |a::l=>Nat.beq a c||mF c l
theorem memB_iff {c:Nat}:∀{l:List Nat},mF c l=true↔c∈l
 |[]=>by simp [mF]
 |a::l=>by
  have ih:= @memB_iff c l
  simp only [mF,Bool.or_eq_true,ih,List.mem_cons]
  constructor
  ·rintro(h|h)
   ·exact .inl (Nat.eq_of_beq_eq_true h).symm
   ·exact .inr h
  ·rintro(h|h)
   ·subst h;exact .inl (Nat.beq_refl _)
   ·exact .inr h
noncomputable def uG (k:Cls) (t:List Nat):Option Bool:=match k with
 | .fin l=>if l.all (mF · t)then some true else if l.all (fun c=> !mF c t)then some false else none
 | .cofin l=>if t.all (mF · l)then some false else none
theorem xV {k:Cls} {t:List Nat} {b:Bool} {c:Nat} (h:uG k t=some b) (hc:k.has c):decide (c∈t)=b:=by
 cases k with
 |fin l=>
  simp only [uG]at h
  split at h
  ·rename_i q
   cases h
   exact decide_eq_true (memB_iff.mp (List.all_eq_true.mp q c hc))
  ·split at h
   ·rename_i q
    cases h
    refine decide_eq_false fun z=> ?_
    have:=List.all_eq_true.mp q c hc
    rw [memB_iff.mpr z]at this
    cases this
   ·cases h
 |cofin l=>
  simp only [uG]at h
  split at h
  ·rename_i q
   cases h
   exact decide_eq_false fun z=>hc (memB_iff.mp (List.all_eq_true.mp q c z))
  ·cases h
noncomputable def aEz (k:Cls) (t:List Nat):Option Bool:=match t with
 |[c]=>uG k [c]
 |_=>some false
theorem aJ1 {k:Cls} {t:Str} {b:Bool} {c:Nat} (h:aEz k t.cps.toList=some b) (hc:k.has c):sEq ⟨#[c]⟩ t=b:=by
 unfold aEz at h
 obtain⟨⟨l⟩⟩:=t
 simp only at h
 split at h
 ·rename_i d
  rw [←xV h hc]
  show(Nat.beq c d&&true)=_
  rw [Bool.and_true]
  by_cases q:c=d
  ·subst q;simp
  ·rw [decide_eq_false (by simpa using q)]
   exact Bool.eq_false_iff.mpr fun z=>q (Nat.eq_of_beq_eq_true z)
 ·rename_i hne
  cases h
  rw [sEq_ne]
  intro e
  cases e
  exact hne c rfl
noncomputable def aOp (o:Option AO):Option Bool:=match o with
 |some o=>match o with
  | .deq xs=>match xs with|[]=>some false|_::r=>match r with|[]=>some true|_::_=>none
  |_=>none
 |none=>none
theorem aLi {o:Option AO} {b:Bool} (h:aOp o=some b):∃xs,o=some (.deq xs)∧xs.length≤1∧b=((xs.length:Int) !=0):=by
 cases o with
 |none=>exact bL h
 |some o=>cases o with
  |deq xs=>cases xs with
   |nil=>exact⟨_,rfl,Nat.zero_le _,(Option.some.inj h).symm⟩
   |cons a r=>cases r with
    |nil=>exact⟨_,rfl,Nat.le_refl _,(Option.some.inj h).symm⟩
    |cons _ _=>exact bL h
  |_=>exact bL h
noncomputable def kM (a:AV):Way Bool:=match a with
 | .none=>rtn false
 | .bool b=>rtn b
 | .int i=>rtn (i !=0)
 | .isym i=>dec (i !=0)
 | .str x=>rtn (match x.cps.toList with|[]=>false|_=>true)
 | .sym (some b) _=>rtn b
 | .sym none x=>dec (match x.cps.toList with|[]=>false|_=>true)
 | .chr _ _=>rtn true
 | .obj k=>bnd getSt fun st=>opt (aOp st.objs[k]?) rtn
 | .val _=>bad
noncomputable def aGi (a:AV):Option Nat:=match a with| .obj k=>some k| .bool _| .int _| .isym _| .str _| .sym _ _| .chr _ _| .val _| .none=>none
noncomputable def zT (o:Option AO):Option (Addr×List (Str×AV)):=match o with
 |some o=>match o with| .inst C fs=>some (C,fs)|_=>none
 |none=>none
noncomputable def aOt (o:Option AO):Option (List AV):=match o with
 |some o=>match o with| .deq xs=>some xs|_=>none
 |none=>none
noncomputable def aOn (o:Option AO):Option (List AV):=match o with
 |some o=>match o with| .list xs=>some xs|_=>none
 |none=>none
noncomputable def tQ (a:AV):Option Unit:=match a with| .none=>some ()| .bool _| .int _| .isym _| .str _| .sym _ _| .chr _ _| .val _| .obj _=>none
noncomputable def aC7 (a:AV):Option Str:=match a with| .str x=>some x| .bool _| .int _| .isym _| .none| .sym _ _| .chr _ _| .val _| .obj _=>none
noncomputable def aIz (a:AV):Option Int:=match a with| .int x=>some x| .bool _| .str _| .isym _| .none| .sym _ _| .chr _ _| .val _| .obj _=>none
noncomputable def aK2 (a:AV):Option Value:=match a with| .val v=>some v| .bool _| .str _| .isym _| .none| .sym _ _| .chr _ _| .int _| .obj _=>none
noncomputable def aK3 (v:Value):Option String:=match v with| .type t=>some t|_=>none
noncomputable def aKl (a:AV):Option Bool:=match a with| .none=>some true| .val _=>none| .bool _| .int _| .isym _| .str _| .sym _ _| .chr _ _| .obj _=>some false
theorem jM {ρ:List OA} {a:AV} {v:Value} {c:Unit} (h:tQ a=some c) (d:den ρ a v):v= .none:=by
 cases a<;>first|exact bL h|exact d
theorem tO {a:AV} {k:Nat} (h:aGi a=some k):a= .obj k:=by
 cases a<;>first|exact bL h|(cases h;rfl)
theorem lT {o:Option AO} {y:Addr×List (Str×AV)} (h:zT o=some y):o=some (.inst y.1 y.2):=by
 cases o with
 |none=>exact bL h
 |some o=>cases o<;>first|exact bL h|(cases h;rfl)
theorem aCt {o:Option AO} {y:List AV} (h:aOt o=some y):o=some (.deq y):=by
 cases o with
 |none=>exact bL h
 |some o=>cases o<;>first|exact bL h|(cases h;rfl)
theorem aC3 {o:Option AO} {y:List AV} (h:aOn o=some y):o=some (.list y):=by
 cases o with
 |none=>exact bL h
 |some o=>cases o<;>first|exact bL h|(cases h;rfl)
theorem sH {a:AV} {y:Str} (h:aC7 a=some y):a= .str y:=by
 cases a<;>first|exact bL h|(cases h;rfl)
theorem aAm {a:AV} {y:Value} (h:aK2 a=some y):a= .val y:=by
 cases a<;>first|exact bL h|(cases h;rfl)
theorem aEc {ρ:List OA} {a:AV} {v:Value} {c:Bool} (h:aKl a=some c) (d:den ρ a v):(v== .none)=c:=by
 cases a with
 |none=>cases d;exact Option.some.inj h
 |val v=>exact bL h
 |bool b=>cases d;exact Option.some.inj h
 |int b|isym b=>obtain⟨t,rfl⟩:=d;exact Option.some.inj h
 |str y|sym e y|chr k c=>obtain⟨t,rfl⟩:=d.1;exact Option.some.inj h
 |obj k=>obtain⟨t,_,rfl⟩:=d;exact Option.some.inj h
noncomputable def xP (x:Str):Option Nat:=match x.cps.toList with|[c]=>some c|_=>none
noncomputable def eqK (a:AV) (x y:Str):Option Bool:=match a with
 | .str _=>some (sEq x y)
 | .chr k _=>aEz k y.cps.toList
 | .bool _| .int _| .isym _| .none| .sym _ _| .val _| .obj _=>none
theorem aQa {ρ:List OA} {a:AV} {v:Value} {x y:Str} {r:Bool} (h:eqK a x y=some r) (hx:cS a=some x) (d:den ρ a v):sEq x y=r:=by
 cases a with
 |str z=>exact Option.some.inj h
 |chr k c=>cases hx;exact aJ1 h d.2
 |_=>exact bL h
noncomputable def ltA (f:Int→Int→Bool) (a b:AV):Way Bool:=opt (jZ a) fun i=>opt (jZ b) fun j=>els (aIz a) (fun zz=>els (aIz b) (fun zz=>rtn (f i j)) (dec (f i j))) (dec (f i j))
noncomputable def eqA (a b:AV):Way Bool:=
 els (tQ a) (fun zz=>els (tQ b) (fun zz=>rtn true) (opt (cS b) fun zz=>rtn false))
 (els (tQ b) (fun zz=>opt (cS a) fun zz=>rtn false)
 (els (cS a) (fun x=>opt (cS b) fun y=>els (aC7 b) (fun zz=>els (eqK a x y) rtn (dec (sEq x y))) (dec (sEq x y)))
 (ltA (fun i j=>decide (i=j)) a b)))
noncomputable def inK (a:AV) (y:Str):Option Bool:=match a with
 | .str x=>match xP x with
  |some c=>some (mF c y.cps.toList)
  |none=>none
 | .chr k _=>uG k y.cps.toList
 | .bool _| .int _| .isym _| .none| .sym _ _| .val _| .obj _=>none
noncomputable def aLx (a:AV):Option Nat:=match a with
 | .str x=>xP x
 | .chr _ c=>some c
 | .bool _| .int _| .isym _| .none| .sym _ _| .val _| .obj _=>none
noncomputable def inA (a b:AV):Way Bool:=opt (aLx a) fun c=>opt (aC7 b) fun y=>els (inK a y) rtn (dec (decide (c∈y.cps.toList)))
noncomputable def isA (a b:AV):Way Bool:=els (tQ b) (fun zz=>opt (aKl a) rtn)
 (opt (aK2 a) fun v=>opt (aK3 v) fun t=>opt (aK2 b) fun u=>opt (aK3 u) fun s=>rtn (t==s))
noncomputable def aQe (op:CmpOp) (a b:AV):Way Bool:=match op with
 | .Eq=>eqA a b
 | .NotEq=>bnd (eqA a b) fun r=>rtn (!r)
 | .Lt=>ltA (fun i j=>decide (i<j)) a b
 | .Gt=>ltA (fun i j=>decide (j<i)) a b
 | .GtE=>ltA (fun i j=>decide (j≤i)) a b
 | .In=>inA a b
 | .NotIn=>bnd (inA a b) fun r=>rtn (!r)
 | .Is=>isA a b
 | .IsNot=>bnd (isA a b) fun r=>rtn (!r)
 | .LtE=>bad
noncomputable def neB (a:AV):Bool:=match a with
 | .chr _ _=>true
 | .sym e _=>e==some true
 | .str x=> !x.cps.toList.isEmpty
 | .bool _| .int _| .isym _| .none| .val _| .obj _=>false
noncomputable def aPd (a b:AV):Option Str:=match aC7 a with
 |some x=>match aC7 b with
  |some y=>match Nat.ble ((x++y).cps.toList.length) 1000 with
   |true=>some (x++y)
   |false=>none
  |none=>none
 |none=>none
noncomputable def aJt (a b:AV):Way AV:=
 els (cS a) (fun x=>opt (cS b) fun y=>els (aPd a b) (fun z=>rtn (.str z)) (bnd (need (x.length+y.length≤sizeLine)) fun zz=>rtn (.sym (match neB a||neB b with|true=>some true|false=>none) (x++y))))
 (opt (jZ a) fun i=>opt (jZ b) fun j=>rtn (match(aIz a).isSome&&(aIz b).isSome with|true=>.int (i+j)|false=>.isym (i+j)))
noncomputable def aGo (a b:AV) (f:Int→Int→Way AV):Way AV:=opt (jZ a) fun i=>opt (jZ b) (f i)
noncomputable def aRw (op:Operator) (a b:AV):Way AV:=match op with
 | .Add=>aJt a b
 | .Mod=>aGo a b fun i j=>bnd (need (j≠0)) fun zz=>rtn (.isym (i.fmod j))
 | .FloorDiv=>aGo a b fun i j=>bnd (need (j≠0∧Builtin.divisionGoesByPylong i j=false)) fun zz=>rtn (.isym (i.fdiv j))
 | .Pow=>aGo a b fun i j=>bnd (need (0≤j∧j≤1000000∧i.natAbs<2^64)) fun zz=>rtn (.isym (i^j.toNat))
 |_=>bad
noncomputable def aLz (a:AV):Way AV:=fun st td=>match td with
 | .v b::r=>some (b,st,r,[∀ρ v,den ρ a v→den ρ b v])
 |_=>some (a,st,td,[])
end Mine
end
section
namespace Mine
noncomputable def Snd {α β:Type} (x:Cx) (ρ:List OA) (m:Way α) (t:Sem β) (R:List OA→α→β→Prop):Prop:=
 ∀st td a st' td' obs,m st td=some (a,st',td',obs)→(∀p∈obs,p)→Tri x ρ st t st' fun ρ' b=>R ρ' a b
noncomputable def SndS {α β:Type} (x:Cx) (ρ:List OA) (st:AS) (m:Way α) (t:Sem β) (R:List OA→α→β→Prop):Prop:=
 ∀td a st' td' obs,m st td=some (a,st',td',obs)→(∀p∈obs,p)→Tri x ρ st t st' fun ρ' b=>R ρ' a b
noncomputable abbrev aO8 {α β:Type} (x:Cx) (ρ:List OA) (st:AS) (t:Sem β) (R:List OA→α→β→Prop) (r:Option (α×AS×List Td×List Prop)):Prop:=
 match r with|none=>True|some y=>(∀p∈y.2.2.2,p)→Tri x ρ st t y.2.1 fun ρ' b=>R ρ' y.1 b
section
variable {α β γ δ:Type} {x:Cx} {ρ:List OA}
theorem Snd.mk {m:Way α} {t:Sem β} {R:List OA→α→β→Prop} (h:∀st td,aO8 x ρ st t R (m st td)):Snd x ρ m t R:=by
 intro st td a st' td' obs e ho
 have:=h st td
 rw [e]at this
 exact this ho
theorem Snd.re {m:Way α} {t t':Sem β} {R:List OA→α→β→Prop} (e:t=t') (h:Snd x ρ m t' R):Snd x ρ m t R:=e▸h
theorem SndS.opt {st:AS} {o:Option γ} {f:γ→Way α} {t:Sem β} {R:List OA→α→β→Prop} (h:∀c,o=some c→SndS x ρ st (f c) t R):SndS x ρ st (Mine.opt o f) t R:=by
 cases o with
 |none=>intro td a st' td' obs e;cases e
 |some c=>exact h c rfl
theorem SndS.els {st:AS} {o:Option γ} {f:γ→Way α} {g:Way α} {t:Sem β} {R:List OA→α→β→Prop} (h:∀c,o=some c→SndS x ρ st (f c) t R) (h2:SndS x ρ st g t R):SndS x ρ st (Mine.els o f g) t R:=by
 cases o with
 |none=>exact h2
 |some c=>exact h c rfl
theorem SndS.grd {st:AS} {b:Bool} {m:Way α} {t:Sem β} {R:List OA→α→β→Prop} (h:b=true→SndS x ρ st m t R):SndS x ρ st (Mine.grd b m) t R:=by
 cases b with
 |false=>intro td a st' td' obs e;cases e
 |true=>exact h rfl
theorem SndS.mk {st:AS} {m:Way α} {t:Sem β} {R:List OA→α→β→Prop} (h:∀td,aO8 x ρ st t R (m st td)):SndS x ρ st m t R:=by
 intro td a st' td' obs e ho
 have:=h td
 rw [e]at this
 exact this ho
theorem SndS.rtn {st:AS} {a:α} {t:Sem β} {R:List OA→α→β→Prop} (h:Tri x ρ st t st fun ρ' b=>R ρ' a b):SndS x ρ st (Mine.rtn a) t R:=.mk fun zz zz=>h
theorem SndS.setSt {st st':AS} {t:Sem β} {R:List OA→Unit→β→Prop} (h:Tri x ρ st t st' fun ρ' b=>R ρ' () b):SndS x ρ st (Mine.setSt st') t R:=.mk fun zz zz=>h
theorem eT {m:Way α} {f:α→Way β} {st st₂:AS} {td td₂:List Td} {b:β} {obs:List Prop} (h:bnd m f st td=some (b,st₂,td₂,obs)):
  ∃a st₁ td₁ o₁ o₂,m st td=some (a,st₁,td₁,o₁)∧f a st₁ td₁=some (b,st₂,td₂,o₂)∧obs=o₁++o₂:=by
 unfold bnd at h
 split at h
 ·cases h
 ·rename_i a st₁ td₁ o₁ e
  split at h
  ·cases h
  ·rename_i b' st' td' o₂ e'
   cases h
   exact⟨a,st₁,td₁,o₁,o₂,e,e',rfl⟩
theorem Snd.bnd {m:Way α} {f:α→Way γ} {t:Sem β} {g:β→Sem δ} {R:List OA→α→β→Prop} {R':List OA→γ→δ→Prop} (h:Snd x ρ m t R) (k:∀ρ₁ a b,Ext ρ ρ₁→R ρ₁ a b→Snd x ρ₁ (f a) (g b) R'):
  Snd x ρ (Mine.bnd m f) (t>>=g) R':=by
 intro st td c st₂ td₂ obs e ho
 obtain⟨a,st₁,td₁,o₁,o₂,e1,e2,rfl⟩:=eT e
 exact(h _ _ _ _ _ _ e1 fun p hp=>ho p (List.mem_append_left _ hp)).bind fun ρ₁ b he hb=>k ρ₁ a b he hb _ _ _ _ _ _ e2 fun p hp=>ho p (List.mem_append_right _ hp)
theorem Snd.rtn {a:α} {b:β} {R:List OA→α→β→Prop} (h:R ρ a b):Snd x ρ (Mine.rtn a) (Pure.pure b:Sem β) R:=.mk fun zz zz zz=>Tri.pure h
theorem Snd.rtn' {a:α} {t:Sem β} {R:List OA→α→β→Prop} (h:∀st,Tri x ρ st t st fun ρ' b=>R ρ' a b):Snd x ρ (Mine.rtn a) t R:=.mk fun st zz zz=>h st
theorem Snd.dec {p:Bool} {t:Sem β} {R:List OA→Bool→β→Prop} (h:∀st,Tri x ρ st t st fun ρ' b=>R ρ' p b):Snd x ρ (Mine.dec p) t R:=.mk fun st td=>by
 cases td with
 |nil=>trivial
 |cons o r=>cases o with
  |b b=>exact fun ho=>(ho (p=b) (.head _))▸h st
  |_=>trivial
theorem Snd.bad {t:Sem β} {R:List OA→α→β→Prop}:Snd x ρ (Mine.bad:Way α) t R:=by
 intro st td c st₂ td₂ obs e ho
 cases e
theorem Snd.need {p:Prop} {f:Unit→Way α} {t:Sem β} {R:List OA→α→β→Prop} (h:p→Snd x ρ (f ()) t R):Snd x ρ (Mine.bnd (Mine.need p) f) t R:=by
 intro st td c st₂ td₂ obs e ho
 refine aF fun gq hgq=> ?_
 obtain⟨a,st₁,td₁,o₁,o₂,e1,e2,rfl⟩:=eT e
 cases e1
 subst hgq
 exact h (ho p (List.mem_append_left _ (.head _))) _ _ _ _ _ _ e2 fun q hq=>ho q (List.mem_append_right _ hq)
theorem Snd.getSt {f:AS→Way α} {t:Sem β} {R:List OA→α→β→Prop} (h:∀st,SndS x ρ st (f st) t R):Snd x ρ (Mine.bnd Mine.getSt f) t R:=by
 intro st td c st₂ td₂ obs e ho
 refine aF fun gq hgq=> ?_
 obtain⟨a,st₁,td₁,o₁,o₂,e1,e2,rfl⟩:=eT e
 cases e1
 subst hgq
 exact h _ _ _ _ _ _ e2 fun q hq=>ho q (List.mem_append_right _ hq)
theorem Snd.opt {o:Option γ} {f:γ→Way α} {t:Sem β} {R:List OA→α→β→Prop} (h:∀c,o=some c→Snd x ρ (f c) t R):Snd x ρ (Mine.opt o f) t R:=by
 cases o with
 |none=>exact .bad
 |some c=>exact h c rfl
theorem Snd.grd {b:Bool} {m:Way α} {t:Sem β} {R:List OA→α→β→Prop} (h:b=true→Snd x ρ m t R):Snd x ρ (Mine.grd b m) t R:=by
 cases b with
 |false=>exact .bad
 |true=>exact h rfl
theorem Snd.els {o:Option γ} {f:γ→Way α} {g:Way α} {t:Sem β} {R:List OA→α→β→Prop} (h:∀c,o=some c→Snd x ρ (f c) t R) (h2:Snd x ρ g t R):Snd x ρ (Mine.els o f g) t R:=by
 cases o with
 |none=>exact h2
 |some c=>exact h c rfl
theorem Snd.map {m:Way α} {f:α→γ} {t:Sem β} {R:List OA→α→β→Prop} {R':List OA→γ→β→Prop} (h:Snd x ρ m t R) (k:∀ρ₁ a b,R ρ₁ a b→R' ρ₁ (f a) b):Snd x ρ (Mine.bnd m fun a=>Mine.rtn (f a)) t R':=by
 intro st td c st₂ td₂ obs e ho
 refine aF fun gq hgq=> ?_
 obtain⟨a,st₁,td₁,o₁,o₂,e1,e2,rfl⟩:=eT e
 cases e2
 subst hgq
 exact(h _ _ _ _ _ _ e1 fun p hp=>ho p (List.mem_append_left _ hp)).imp fun ρ₁ b zz=>k ρ₁ a b
theorem Snd.imp {m:Way α} {t:Sem β} {R R':List OA→α→β→Prop} (h:Snd x ρ m t R) (k:∀ρ₁ a b,Ext ρ ρ₁→R ρ₁ a b→R' ρ₁ a b):Snd x ρ m t R':=fun st td c st₂ td₂ obs e ho=>(h _ _ _ _ _ _ e ho).imp fun ρ₁ b he=>k ρ₁ _ b he
theorem Snd.mapO {m:Way α} {f:α→Option γ} {t:Sem β} {R:List OA→α→β→Prop} {R':List OA→γ→β→Prop} (h:Snd x ρ m t R) (k:∀ρ₁ a b c,f a=some c→R ρ₁ a b→R' ρ₁ c b):Snd x ρ (Mine.bnd m fun a=>Mine.opt (f a) Mine.rtn) t R':=by
 intro st td c st₂ td₂ obs e ho
 refine aF fun gq hgq=> ?_
 obtain⟨a,st₁,td₁,o₁,o₂,e1,e2,rfl⟩:=eT e
 subst hgq
 cases q:f a with
 |none=>rw [q]at e2;cases e2
 |some c'=>
  rw [q]at e2
  cases e2
  exact(h _ _ _ _ _ _ e1 fun p hp=>ho p (List.mem_append_left _ hp)).imp fun ρ₁ b zz=>k ρ₁ a b _ q
theorem Snd.holding {m:Way α} {vs:List Value} {t:Sem β} {R:List OA→α→β→Prop} (h:Snd x ρ m t R):Snd x ρ m (PySem.holding vs t) R:=fun st td c st₂ td₂ obs e ho=>(h _ _ _ _ _ _ e ho).holding
theorem Snd.operate {m:Way α} {vs:List Value} {t:Sem Value} {R:List OA→α→Value→Prop} (h:Snd x ρ m t R):Snd x ρ m (PySem.operate vs t) R:=fun st td c st₂ td₂ obs e ho=>(h _ _ _ _ _ _ e ho).operate
theorem Snd.standAt {m:Way α} {pos:Pos} {g:Unit→Sem β} {R:List OA→α→β→Prop} (h:Snd x ρ m (g ()) R):Snd x ρ m (PySem.standAt pos>>=g) R:=fun st td c st₂ td₂ obs e ho=>(h _ _ _ _ _ _ e ho).standAt
theorem Snd.letTemp {m:Way α} {base:Expr} {o r:Value} {g:Unit→Sem β} {R:List OA→α→β→Prop} (h:Snd x ρ m (g ()) R):Snd x ρ m (letTemporaryGo base o r>>=g) R:=fun st td c st₂ td₂ obs e ho=>(h _ _ _ _ _ _ e ho).letTemp
theorem Snd.release {m:Way α} {vs ks:List Value} {g:Unit→Sem β} {R:List OA→α→β→Prop} (h:Snd x ρ m (g ()) R):Snd x ρ m (PySem.release vs ks>>=g) R:=fun st td c st₂ td₂ obs e ho=>(h _ _ _ _ _ _ e ho).release
end
theorem bA {α:Type} {x:Cx} {ρ:List OA} {st:AS} {t:Sem α} {p:List OA→α→Prop}
  (h:∀(s:Shared) (Q:α→Shared→Prop) (E:Value→Shared→Prop),(∀a tk,p ρ a→Q a {s with toks:=tk})→wpAny (model P0 x.w) x.A t Q E s):Tri x ρ st t st p:=
 Tri.leaf fun s Q E R k=>to1 (h s Q E k)
section
variable {K:Params→Frag} {n:Nat} {x:Cx} {ρ:List OA} {a b:AV} {v u:Value}
theorem jU (x y:Str):(x==y)=sEq x y:=by
 cases q:sEq x y with
 |true=>rw [sEq_iff]at q;subst q;simp
 |false=>rw [sEq_ne]at q;simpa using q
theorem aRg (x:Str):((x.length:Int) !=0)=(match x.cps.toList with|[]=>false|_=>true):=by
 obtain⟨⟨l⟩⟩:=x
 cases l with
 |nil=>rfl
 |cons a l=>
  show(((List.length (a::l):Nat):Int) !=0)=true
  simp only [List.length_cons,bne_iff_ne,ne_eq]
  omega
theorem aQ8 {x:Str} (h:x.length≤sizeLine):(x.length:Int)<9223372036854775808:=by
 rw [sizeLine_eq]at h
 lia
theorem eM {y:Str} {t:Tok} {st:AS} (h:y.length≤sizeLine):Tri x ρ st (truthy (.str y t)) st fun zz r=>r=(match y.cps.toList with|[]=>false|_=>true):=
 bA fun s Q E k=>SBL.truthy (aQ8 h) (k _ _ (aRg y))
theorem kN {i:Int} {t:Tok} {st:AS}:Tri x ρ st (truthy (.int i t)) st fun zz r=>r=(i !=0):=bA fun s Q E k=>P.truthy_int (k _ _ rfl)
theorem slot_deque_len:Slot "collections.deque" "__len__" "collections.deque.__len__":=
 .of (owner:="collections.deque") (n:="__len__") (by rw [typeLookup_type,builtinLookup_eq_fast];kernel_rfl) (by decide+kernel) (by decide+kernel) (by decide+kernel) (by first|exact .inl (by decide+kernel)|exact .inr (by decide+kernel)) (by rw [isSubtype_type];kernel_rfl)
theorem zO:typeLookup (.type "collections.deque") "__bool__"=pure none:=by rw [typeLookup_type,builtinLookup_eq_fast];kernel_rfl
theorem sA:entryFor table "collections.deque.__len__"=some Builtin.«collections.deque.__len__»:=entryFor_of_tree (by kernel_rfl)
theorem vQ (a:Value):argsOk "collections.deque.__len__" ⟨[a],[]⟩:=by unfold argsOk;kernel_rfl
theorem jF {s:Shared} {a:Addr} {vs:List Value} {k:Int} (h:s.heap.get? a=some (aU vs k)):s.TypeIs (.ref a) "collections.deque":=⟨_,h,rfl⟩
theorem yV {prog:Program} {w:World} {A:Around} {E:Value→Shared→Prop} {s:Shared} {a:Addr} {vs:List Value} {k:Int} {Q:Bool→Shared→Prop} (h:s.heap.get? a=some (aU vs k)) (hz:vs.length≤1000)
  (hq:Q (((vs.length:Nat):Int) !=0) {s with toks:=s.toks+1+1}):wpAny (model prog w) A (truthy (.ref a)) Q E s:=by
 have hT:=jF h
 have hsz:(#[Value.none,rawInt k]++vs.toArray).size - 2=vs.length:=by simp
 have key:wpAny (model prog w) A (runValue (.builtin "len" ⟨[.ref a],[]⟩)) (fun r s'=>r= .int vs.length (s.toks+1)∧Q (((vs.length:Nat):Int) !=0) s') E s:=by
  refine wpAny_runValue (codeAny_builtin entry_len ?_)
  rw [Around.under_plainId plain_len _]
  unfold Builtin.«len»
  refine wpAny_bind (m:=oneArg "len" _) (wpAny_pure ?_)
  refine wpAny_bind (m:=callSpecial? (.ref a) (Str.ofString "__len__")) (wpAny_callSpecial?_slot (name:=Str.ofString "__len__") hT slot_deque_len
   (wpAny_call_entry slot_deque_len hT sA ?_ (vQ _)))
  unfold Builtin.«collections.deque.__len__» Builtin.Deque.size
  refine wpAny_bind (wpAny_pure (wpAny_bind (wpAny_bind (wpAny_fieldsOf h rfl (wpAny_pure ?_)))))
  rw [hsz]
  refine wpAny_bind (wpAny_mkInt (wpAny_pure ⟨_,rfl, ?_⟩))
  refine wpAny_bind (wpAny_holding (wpAny_pure ?_))
  refine wpAny_bind (wpAny_letGo ?_)
  show wpAny _ _ (if((vs.length:Nat):Int)<0 then _ else _) _ _ _
  rw [if_neg (by lia)]
  show wpAny _ _ (if((vs.length:Nat):Int)≥2^63 then _ else _) _ _ _
  rw [if_neg (by lia)]
  exact wpAny_bind (wpAny_mkInt (wpAny_pure ⟨rfl,hq⟩))
 unfold truthy
 refine wpAny_bind (wpAny_callSpecial?_none (name:=Str.ofString "__bool__") hT zO ?_)
 refine wpAny_bind (wpAny_specialOf (name:=Str.ofString "__len__") hT slot_deque_len.lookup ?_)
 exact wpAny_bind (wpAny_mono key (fun r s' h'=>by obtain⟨rfl,hq⟩:=h';exact wpAny_pure hq) fun zz zz e=>e)
theorem xF (d:den ρ a v):Snd x ρ (kM a) (truthy v) fun zz b r=>r=b:=by
 cases a with
 |none=>cases d;exact .rtn' fun st=>bA fun s Q E k=>wpAny_pure (k _ s.toks rfl)
 |bool b=>cases d;exact .rtn' fun st=>bA fun s Q E k=>wpAny_truthy_bool (k _ s.toks rfl)
 |int i=>obtain⟨t,rfl⟩:=d;exact .rtn' fun st=>kN
 |isym i=>obtain⟨t,rfl⟩:=d;exact .dec fun st=>kN
 |str y=>obtain⟨⟨t,rfl⟩,hl⟩:=d;exact .rtn' fun st=>eM hl
 |sym e y=>
  obtain⟨⟨t,rfl⟩,hl,h1,h2⟩:=d
  cases e with
  |none=>exact .dec fun st=>eM hl
  |some b=>
   refine .rtn' fun st=>(eM hl).imp fun zz r zz q=> ?_
   rw [q]
   cases b with
   |true=>cases hy:y.cps.toList with|nil=>exact absurd hy (h1 rfl)|cons _ _=>rfl
   |false=>rw [h2 rfl]
 |chr k c=>obtain⟨⟨t,rfl⟩,_⟩:=d;exact .rtn' fun st=>eM (y:=⟨#[c]⟩) (by show 1≤sizeLine;rw [sizeLine_eq];decide)
 |val u=>exact .bad
 |obj k=>
  refine .getSt fun st=> ?_
  refine SndS.opt (f:=Mine.rtn) fun b hb=>.rtn fun s Q E R kk=> ?_
  refine aF fun gq hgq=> ?_
  obtain⟨xs,q,hz,rfl⟩:=aLi hb
  obtain⟨y,hy,vs,m,hd,h1,h2⟩:=R.objs k _ q
  obtain⟨z,hz',rfl⟩:=d
  rw [hy]at hz';obtain rfl:=Option.some.inj hz'
  subst hgq
  exact to1 (yV h1 (by rw [←h2.length];exact Nat.le_trans hz (by decide)) (kk _ _ ρ (R.toks (Nat.succ_pos _)) ((Next.refl ..).toks _) (by rw [h2.length])))
noncomputable abbrev aAh (_:List OA) (b:Bool) (r:Value):Prop:=r= .bool b
theorem aDn {y z:Str} {t t':Tok} {st:AS}:Tri x ρ st (compareOp .Eq (.str y t) (.str z t')) st fun zz r=>r= .bool (sEq y z):=bA fun s Q E k=>PyProof.Rows.eq_str (k _ s.toks (by rw [jU]))
theorem aDk {y z:Str} {t t':Tok} {st:AS}:Tri x ρ st (compareOp .NotEq (.str y t) (.str z t')) st fun zz r=>r= .bool (!sEq y z):=bA fun s Q E k=>PyProof.Rows.ne_str (k _ s.toks (by rw [bne,jU]))
theorem aDo {y z:Int} {t t':Tok} {st:AS}:Tri x ρ st (compareOp .Eq (.int y t) (.int z t')) st fun zz r=>r= .bool (decide (y=z)):=bA fun s Q E k=>PyProof.Rows.eq_int (k _ s.toks rfl)
theorem aDl {y z:Int} {t t':Tok} {st:AS}:Tri x ρ st (compareOp .NotEq (.int y t) (.int z t')) st fun zz r=>r= .bool (!decide (y=z)):=bA fun s Q E k=>PyProof.Rows.ne_int (k _ s.toks rfl)
theorem aG2 {t:Value→Value→Sem Value} {f:Int→Int→Bool} {g:Bool→Bool} (h:∀(i j:Int) (k k':Tok) (st:AS),Tri x ρ st (t (.int i k) (.int j k')) st fun zz r=>r= .bool (g (f i j))) (da:den ρ a v) (db:den ρ b u):Snd x ρ (ltA f a b) (t v u) fun zz c r=>r= .bool (g c):=by
 refine .opt fun i q=>.opt fun j q'=> ?_
 obtain⟨k,rfl⟩:=dH q da
 obtain⟨k',rfl⟩:=dH q' db
 exact .els (fun zz zz=>.els (fun zz zz=>.rtn' fun st=>h _ _ _ _ _) (.dec fun st=>h _ _ _ _ _)) (.dec fun st=>h _ _ _ _ _)
structure EqLike (x:Cx) (ρ:List OA) (t:Value→Value→Sem Value) (g:Bool→Bool):Prop where
 nn:∀st,Tri x ρ st (t .none .none) st fun zz r=>r= .bool (g true)
 ns:∀st y k,Tri x ρ st (t .none (.str y k)) st fun zz r=>r= .bool (g false)
 sn:∀st y k,Tri x ρ st (t (.str y k) .none) st fun zz r=>r= .bool (g false)
 ss:∀st y k z k',Tri x ρ st (t (.str y k) (.str z k')) st fun zz r=>r= .bool (g (sEq y z))
 ii:∀(i j:Int) (k k':Tok) (st:AS),Tri x ρ st (t (.int i k) (.int j k')) st fun zz r=>r= .bool (g (decide (i=j)))
theorem aG6 {t:Value→Value→Sem Value} {g:Bool→Bool} (h:EqLike x ρ t g) (da:den ρ a v) (db:den ρ b u):Snd x ρ (eqA a b) (t v u) fun zz c r=>r= .bool (g c):=by
 refine .els (fun zz q=> ?_) (.els (fun zz q=> ?_) (.els (fun y q=>.opt fun z q'=> ?_) (aG2 h.ii da db)))
 ·cases jM q da
  refine .els (fun zz q=> ?_) (.opt fun y q=> ?_)
  ·cases jM q db
   exact .rtn' h.nn
  ·obtain⟨k,rfl,_⟩:=bK q db
   exact .rtn' fun st=>h.ns st y k
 ·cases jM q db
  refine .opt fun y q=> ?_
  obtain⟨k,rfl,_⟩:=bK q da
  exact .rtn' fun st=>h.sn st y k
 ·refine aF fun gq hgq=> ?_
  obtain⟨k,rfl,_⟩:=bK q da
  obtain⟨k',rfl,_⟩:=bK q' db
  subst hgq
  exact .els (fun zz zz=>.els (fun c q2=>.rtn' fun st=>aQa q2 q da▸h.ss st y k z k') (.dec fun st=>h.ss st y k z k')) (.dec fun st=>h.ss st y k z k')
theorem aPn (da:den ρ a v) (db:den ρ b u):Snd x ρ (eqA a b) (compareOp .Eq v u) aAh:=
 aG6 (g:=id) ⟨fun st=>bA fun s Q E k=>EqNone.eq_none_none (k _ s.toks rfl),fun st y t=>bA fun s Q E k=>EqNone.eq_none_str (k _ s.toks rfl),fun st y t=>bA fun s Q E k=>EqNone.eq_str_none (k _ s.toks rfl),
  fun st y k z k'=>aDn,fun i j k k' st=>aDo⟩ da db
theorem aPk (da:den ρ a v) (db:den ρ b u):Snd x ρ (bnd (eqA a b) fun r=>rtn (!r)) (compareOp .NotEq v u) aAh:=
 Snd.map (aG6 (g:=not) ⟨fun st=>bA fun s Q E k=>EqNone.ne_none_none (k _ s.toks rfl),fun st y t=>bA fun s Q E k=>EqNone.ne_none_str (k _ s.toks rfl),fun st y t=>bA fun s Q E k=>EqNone.ne_str_none (k _ s.toks rfl),
  fun st y k z k'=>aDk,fun i j k k' st=>aDl⟩ da db) fun zz c r q=>q
theorem aEd {op:CmpOp} {f:Int→Int→Bool} (h:∀(i j:Int) (t t':Tok) (st:AS),Tri x ρ st (compareOp op (.int i t) (.int j t')) st fun zz r=>r= .bool (f i j)) (da:den ρ a v) (db:den ρ b u):Snd x ρ (ltA f a b) (compareOp op v u) aAh:=aG2 (g:=id) h da db
theorem aP9 {y:Str} {c:Nat} {t t':Tok} {st:AS}:Tri x ρ st (compareOp .In (.str ⟨#[c]⟩ t) (.str y t')) st fun zz r=>r= .bool (decide (c∈y.cps.toList)):=
 bA fun s Q E k=>PyProof.Rows.in_str (k _ s.toks (by rw [StrLaws.found_one]))
theorem aHh {y:Str} {c:Nat} {t t':Tok} {st:AS}:Tri x ρ st (compareOp .NotIn (.str ⟨#[c]⟩ t) (.str y t')) st fun zz r=>r= .bool (!decide (c∈y.cps.toList)):=
 bA fun s Q E k=>PyProof.Rows.notIn_str (k _ s.toks (by rw [StrLaws.found_one]))
theorem aLa {y:Str} {c:Nat} (h:xP y=some c):y=⟨#[c]⟩:=by
 obtain⟨⟨l⟩⟩:=y
 unfold xP at h
 split at h
 ·rename_i d e;cases h;simp only at e;subst e;rfl
 ·cases h
theorem aJk {c:Nat} (h:aLx a=some c) (d:den ρ a v):∃t,v= .str ⟨#[c]⟩ t:=by
 cases a with
 |str y=>cases aLa h;exact d.1
 |chr k c=>cases h;exact d.1
 |_=>exact bL h
theorem aNr {c:Nat} {y:Str} {r:Bool} (h:inK a y=some r) (hc:aLx a=some c) (d:den ρ a v):decide (c∈y.cps.toList)=r:=by
 cases a with
 |str z=>
  have e:inK (.str z) y=match xP z with|some c=>some (mF c y.cps.toList)|none=>none:=rfl
  rw [e,show xP z=some c from hc]at h
  cases h
  exact Bool.eq_iff_iff.mpr (by rw [decide_eq_true_eq,memB_iff])
 |chr k c=>cases hc;exact xV h d.2
 |_=>exact bL h
theorem aG4 {op:CmpOp} {g:Bool→Bool} (h:∀(y:Str) (c:Nat) (t t':Tok) (st:AS),Tri x ρ st (compareOp op (.str ⟨#[c]⟩ t) (.str y t')) st fun zz r=>r= .bool (g (decide (c∈y.cps.toList)))) (da:den ρ a v) (db:den ρ b u):
  Snd x ρ (inA a b) (compareOp op v u) fun zz c r=>r= .bool (g c):=by
 refine .opt fun c q=>.opt fun y q'=> ?_
 obtain⟨t,rfl⟩:=aJk q da
 cases sH q'
 obtain⟨⟨t',rfl⟩,_⟩:=db
 exact .els (fun r q2=>.rtn' fun st=>aNr q2 q da▸h _ _ _ _ _) (.dec fun st=>h _ _ _ _ _)
theorem qL {st:AS}:Tri x ρ st (compareOp .Is v .none) st fun zz r=>r= .bool (v== .none):=bA fun s Q E k=>is_none (k _ s.toks rfl)
theorem kO {st:AS}:Tri x ρ st (compareOp .IsNot v .none) st fun zz r=>r= .bool (!(v== .none)):=bA fun s Q E k=>isNot_none (k _ s.toks rfl)
theorem rB (t u:String):isSame (.type t) (.type u)=pure (t==u):=by
 show(pure (Value.type t==Value.type u):Sem Bool)=_
 congr 1
 by_cases h:t=u
 ·subst h;simp
 ·have:(Value.type t==Value.type u)=false:=by simpa using h
  rw [this];simpa using h
theorem aAn {v:Value} {t:String} (h:aK3 v=some t):v= .type t:=by
 cases v<;>first|exact bL h|(cases h;rfl)
theorem aG3 {op:CmpOp} {g:Bool→Bool} (h:∀(v:Value) (st:AS),Tri x ρ st (compareOp op v .none) st fun zz r=>r= .bool (g (v== .none)))
  (h':∀(t u:String) (st:AS),Tri x ρ st (compareOp op (.type t) (.type u)) st fun zz r=>r= .bool (g (t==u))) (da:den ρ a v) (db:den ρ b u):Snd x ρ (isA a b) (compareOp op v u) fun zz c r=>r= .bool (g c):=by
 refine .els (fun zz q=>.opt fun c q'=> ?_) (.opt fun v' q1=>.opt fun t q2=>.opt fun u' q3=>.opt fun s q4=> ?_)
 ·cases jM q db
  exact .rtn' fun st=>aEc q' da▸h _ _
 ·cases aAm q1
  cases aAm q3
  cases aAn q2
  cases aAn q4
  cases da
  cases db
  exact .rtn' fun st=>h' _ _ _
theorem aAq {t u:String} {st:AS}:Tri x ρ st (compareOp .Is (.type t) (.type u)) st fun zz r=>r= .bool (t==u):=by
 show Tri x ρ st (do return Value.bool (←isSame (.type t) (.type u))) _ _
 rw [rB]
 exact Tri.pure rfl
theorem sS {t u:String} {st:AS}:Tri x ρ st (compareOp .IsNot (.type t) (.type u)) st fun zz r=>r= .bool (!(t==u)):=by
 show Tri x ρ st (do return Value.bool (!(←isSame (.type t) (.type u)))) _ _
 rw [rB]
 exact Tri.pure rfl
theorem aG7 {op:CmpOp} (da:den ρ a v) (db:den ρ b u):Snd x ρ (aQe op a b) (compareOp op v u) aAh:=by
 cases op with
 |Eq=>exact aPn da db
 |NotEq=>exact aPk da db
 |Lt=>exact aEd (fun i j t t' st=>bA fun s Q E k=>PyProof.Rows.lt_int (k _ s.toks rfl)) da db
 |Gt=>exact aEd (fun i j t t' st=>bA fun s Q E k=>PyProof.Rows.gt_int (k _ s.toks rfl)) da db
 |GtE=>exact aEd (fun i j t t' st=>bA fun s Q E k=>PyProof.Rows.ge_int (k _ s.toks rfl)) da db
 |In=>exact aG4 (g:=id) (fun zz zz zz zz zz=>aP9) da db
 |NotIn=>exact Snd.map (aG4 (op:=.NotIn) (g:=not) (fun zz zz zz zz zz=>aHh) da db) fun zz c r q=>q
 |Is=>exact aG3 (g:=id) (fun zz zz=>qL) (fun zz zz zz=>aAq) da db
 |IsNot=>exact Snd.map (aG3 (op:=.IsNot) (g:=not) (fun zz zz=>kO) (fun zz zz zz=>sS) da db) fun zz c r q=>q
 |LtE=>exact .bad
theorem aLb {y:Str} (h:cS a=some y) (hn:neB a=true) (d:den ρ a v):y.cps.toList≠ []:=by
 cases a with
 |chr k c=>cases h;exact List.cons_ne_nil _ _
 |sym e z=>cases h;exact d.2.2.1 (beq_iff_eq.mp hn)
 |str z=>
  cases h
  intro e
  rw [show neB (.str y)= !y.cps.toList.isEmpty from rfl,e]at hn
  cases hn
 |_=>exact bL h
theorem aN2 {x y z:Str} (h:aPd a b=some z) (ha:cS a=some x) (hb:cS b=some y):z=x++y∧(x++y).length≤1000:=by
 unfold aPd at h
 cases qa:aC7 a with
 |none=>rw [qa]at h;exact bL h
 |some x'=>
  cases qb:aC7 b with
  |none=>rw [qa,qb]at h;exact bL h
  |some y'=>
   rw [qa,qb]at h
   cases sH qa
   cases sH qb
   cases ha
   cases hb
   cases hl:Nat.ble ((x++y).cps.toList.length) 1000 with
   |true=>
    dsimp only at h
    rw [hl]at h
    cases h
    exact⟨rfl,Nat.le_of_ble_eq_true hl⟩
   |false=>dsimp only at h;rw [hl]at h;exact bL h
theorem aBd {t:Value→Value→Sem Value} (hs:∀(y z:Str) (k k':Tok) (st:AS),y.length+z.length≤sizeLine→Tri x ρ st (t (.str y k) (.str z k')) st fun zz r=>∃k,r= .str (y++z) k)
  (hi:∀(i j:Int) (k k':Tok) (st:AS),Tri x ρ st (t (.int i k) (.int j k')) st fun zz r=>∃k,r= .int (i+j) k) (da:den ρ a v) (db:den ρ b u):Snd x ρ (aJt a b) (t v u) fun ρ' c r=>den ρ' c r:=by
 refine .els (fun y q=>.opt fun z q'=> ?_) (.opt fun i q=>.opt fun j q'=> ?_)
 ·obtain⟨k,rfl,_⟩:=bK q da
  obtain⟨k',rfl,_⟩:=bK q' db
  refine .els (fun w qw=> ?_) (.need fun hn=>.rtn' fun st=>(hs y z k k' st hn).imp fun ρ' r zz e=>⟨e,by rw [Str.length_append];exact hn,fun q2=> ?_,fun q2=> ?_⟩)
  ·obtain⟨rfl,hl⟩:=aN2 qw q q'
   have hz:1000≤sizeLine:=by rw [sizeLine_eq];decide
   exact .rtn' fun st=>(hs y z k k' st (Nat.le_trans (Str.length_append y z▸hl) hz)).imp fun zz r zz e=>⟨e,Nat.le_trans hl hz⟩
  ·have e2:(y++z).cps.toList=y.cps.toList++z.cps.toList:=Array.toList_append
   rw [e2]
   intro h0
   have h0:=List.append_eq_nil_iff.mp h0
   cases h1:neB a with
   |true=>exact aLb q h1 da h0.1
   |false=>
    cases h2:neB b with
    |true=>exact aLb q' h2 db h0.2
    |false=>rw [h1,h2]at q2;cases q2
  ·cases h1:(neB a||neB b)with
   |true=>rw [h1]at q2;cases q2
   |false=>rw [h1]at q2;cases q2
 ·obtain⟨k,rfl⟩:=dH q da
  obtain⟨k',rfl⟩:=dH q' db
  refine .rtn' fun st=>(hi i j k k' st).imp fun ρ' r zz e=> ?_
  cases (aIz a).isSome&&(aIz b).isSome with
  |true=>exact e
  |false=>exact e
theorem aN8 (da:den ρ a v) (db:den ρ b u):Snd x ρ (aJt a b) (binaryOp .Add v u) fun ρ' c r=>den ρ' c r:=
 aBd (fun y z k k' st h=>bA fun s Q E kk=>SBL.add (fun t' m zz=>kk _ m ⟨_,rfl⟩) h) (fun i j k k' st=>bA fun s Q E kk=>add_int (kk _ _ ⟨_,rfl⟩)) da db
theorem aB8 (da:den ρ a v) (db:den ρ b u):Snd x ρ (aJt a b) (inplaceOp .Add v u) fun ρ' c r=>den ρ' c r:=
 aBd (fun y z k k' st h=>bA fun s Q E kk=>SBL.iadd (fun t' m zz=>kk _ m ⟨_,rfl⟩) h) (fun i j k k' st=>bA fun s Q E kk=>iadd_int (kk _ _ ⟨_,rfl⟩)) da db
theorem tC {t:Value→Value→Sem Value} {f:Int→Int→Way AV} (h:∀i j k k',Snd x ρ (f i j) (t (.int i k) (.int j k')) fun ρ' c r=>den ρ' c r) (da:den ρ a v) (db:den ρ b u):Snd x ρ (aGo a b f) (t v u) fun ρ' c r=>den ρ' c r:=by
 refine .opt fun i q=>.opt fun j q'=> ?_
 obtain⟨k,rfl⟩:=dH q da
 obtain⟨k',rfl⟩:=dH q' db
 exact h i j k k'
theorem aN5 {op:Operator} (da:den ρ a v) (db:den ρ b u):Snd x ρ (aRw op a b) (binaryOp op v u) fun ρ' c r=>den ρ' c r:=by
 cases op with
 |Add=>exact aN8 da db
 |Mod=>exact tC (fun i j k k'=>.need fun hn=>.rtn' fun st=>bA fun s Q E kk=>PyProof.Rows.mod_int hn (kk _ _ ⟨_,rfl⟩)) da db
 |FloorDiv=>exact tC (fun i j k k'=>.need fun hn=>.rtn' fun st=>bA fun s Q E kk=>PyProof.Rows.floordiv_int hn.1 (kk _ _ ⟨_,rfl⟩) (.inl hn.2)) da db
 |Pow=>exact tC (fun i j k k'=>.need fun hn=>.rtn' fun st=>bA fun s Q E kk=>PyProof.Rows.pow_int_small hn.1 hn.2.1 hn.2.2 (kk _ _ ⟨_,rfl⟩)) da db
 |_=>exact .bad
theorem aKs {t:Sem Value} {st:AS} (h:Tri x ρ st t st₁ fun ρ' r=>den ρ' a r) {td td':List Td} {b:AV} {st':AS} {obs:List Prop} (e:aLz a st₁ td=some (b,st',td',obs)) (ho:∀p∈obs,p):Tri x ρ st t st' fun ρ' r=>den ρ' b r:=by
 have w:aO8 x ρ st t (fun ρ' b r=>den ρ' b r) (aLz a st₁ td):=by
  cases td with
  |nil=>exact fun zz=>h
  |cons o r=>cases o with
   |v c=>exact fun ho=>h.imp fun ρ' v zz d=>ho _ (.head _) ρ' v d
   |_=>exact fun zz=>h
 rw [e]at w
 exact w ho
end
end Mine
end
section
namespace Mine
noncomputable def cP {α:Type} (y:Str):List (Str×α)→Option α
 |[]=>none
 |(z,v)::r=>match sEq z y with
  |true=>some v
  |false=>cP y r
noncomputable def lB {α:Type} (c:Nat):List (Nat×α)→Option α
 |[]=>none
 |(z,v)::r=>match Nat.beq z c with
  |true=>some v
  |false=>lB c r
noncomputable def aIt (y:Str):List Str→Bool
 |[]=>false
 |z::r=>match sEq z y with
  |true=>true
  |false=>aIt y r
theorem aN:∀(l:List (Str×NameKind)) (y:Str),l.lookup y=cP y l
 |[],_=>rfl
 |(z,k)::r,y=>by
  unfold cP
  rw [List.lookup_cons,aN r y]
  have:(y==z)=sEq z y:=by rw [jU,aKw]
  rw [this]
  cases sEq z y<;>rfl
structure Tab where
 flds:List (Nat×List Str)
 mets:List (Nat×List (Str×Addr))
 prps:List (Nat×List (Str×Addr))
 glbs:List (Str×Value)
 mStr:List (Str×String)
 mDeq:List (Str×String)
 mLst:List (Str×String)
 mRaw:List (Str×String)
noncomputable def hM (T:String) (name:Str) (id:String):Prop:=PlainAttrs T∧Slot T name id∧typeOf (.builtin id)=pure (.type "method_descriptor")
noncomputable def aRx (o:Option Obj):Bool:=match o with
 |none=>false
 |some o=>match o.cls with
  | .type t=>(match o.data with
   | .fields _=>t=="builtin_function_or_method"
   |_=>false)
  |_=>false
theorem aO6 {o:Option Obj} (h:aRx o=true):∃d vs sl,o=some ⟨.type "builtin_function_or_method",d,.fields vs,sl⟩:=by
 cases o with
 |none=>exact mV h
 |some o=>
  obtain⟨c,d,b,sl⟩:=o
  cases c with
  |type t=>cases b with
   |fields vs=>cases eq_of_beq h;exact⟨d,vs,sl,rfl⟩
   |_=>exact mV h
  |_=>exact mV h
noncomputable def iN (K:Frag) (f:Value):Bool:=match f with
 | .builtin _=>true
 | .type _=>true
 | .ref a=>keepIn K (.ref a)||aRx (K.lookup a)
 |_=>false
structure TabOk (K:Params→Frag) (t:Tab):Prop where
 glb:∀y v,cP y t.glbs=some v→∀P,iO (K P) y v∧iN (K P) v=true
 fld:∀C l y,lB C t.flds=some l→aIt y l=true→∀P,sI (K P) C y=true∧oF (K P) C y=true
 met:∀C l y f,lB C t.mets=some l→cP y l=some f→∀P,plainGet (K P) C y=true∧findIn (K P) (.ref C) y=some (some (.ref f))∧typeIn (K P) (.ref f)=some (.type "function")∧iN (K P) (.ref f)=true
 prp:∀C l y f,lB C t.prps=some l→cP y l=some f→∀P,plainGet (K P) C y=true∧hasDictIn (K P) C=true∧∃p rest,findIn (K P) (.ref C) y=some (some (.ref p))∧specialIn (K P) (.ref p) "__get__"=some (some (.builtin "property.__get__"))∧takesIn (K P) (.ref p)=some true∧recIn (K P) p "property"=some (.ref f::rest)
 str:∀y id,cP y t.mStr=some id→hM "str" y id
 deq:∀y id,cP y t.mDeq=some id→hM "collections.deque" y id
 lst:∀y id,cP y t.mLst=some id→hM "list" y id
structure Lv where
 ev:Expr→Way AV
 tr:Expr→Way Bool
section
variable (K:Params→Frag) (t:Tab) (n:Nat) (sc:Scope)
noncomputable def aH2 (f:Value) (args:List AV) (kws:List (Str×AV)):Way AV:=fun st td=>match td with
 | .c v objs::r=>some (v,{st with objs:=objs},r,[DoesCall K n f args kws st.objs v objs])
 |_=>none
noncomputable def aOr (e:Expr):Way AV:=fun st td=>match td with
 | .e v st'::r=>some (v,st',r,[DoesE K n sc e st v st'])
 |_=>none
noncomputable def aOb (e:Expr):Way Bool:=fun st td=>match td with
 | .e (.bool b) st'::r=>some (b,st',r,[cW K n sc e st b st'])
 |_=>none
noncomputable def aOf (e:Stmt):Way AFlow:=fun st td=>match td with
 | .s f st'::r=>some (f,st',r,[DoesS K n sc e st f st'])
 |_=>none
noncomputable def orElse {α:Type} (m k:Way α):Way α:=fun st td=>match m st td with
 |some r=>some r
 |none=>k st td
noncomputable def aOu (f:Value) (args:List AV):Way AV:=match n with
 |0=>bad
 |m+1=>fun st td=>match td with
  |o::r=>match o with
   | .c v objs=>match v.plain with
    |true=>some (v,{st with objs:=objs},r,[DoesCode K m f args [] st.objs v objs])
    |false=>none
   |_=>none
  |[]=>none
noncomputable def aCe (o:Option NameKind):Option Unit:=match o with|some k=>(match k with| .local=>some ()|_=>none)|none=>none
noncomputable def aGn (o:Option NameKind):Option Unit:=match o with|some k=>(match k with| .globalImplicit=>some ()|_=>none)|none=>none
theorem uK {o:Option NameKind} {c:Unit} (h:aCe o=some c):o=some .local:=by
 cases o with
 |none=>exact bL h
 |some k=>cases k<;>first|exact bL h|rfl
theorem aCf {o:Option NameKind} {c:Unit} (h:aGn o=some c):o=some .globalImplicit:=by
 cases o with
 |none=>exact bL h
 |some k=>cases k<;>first|exact bL h|rfl
noncomputable def tU (y:Str):Way AV:=grd (!sEq y "__debug__") (els (aCe (cP y sc.names)) (fun zz=>bnd getSt fun st=>opt (look y st.loc) rtn)
 (opt (aGn (cP y sc.names)) fun zz=>opt (cP y t.glbs) fun v=>rtn (.val v)))
noncomputable def aBx (y:Str):Option Value:=match sEq y "__debug__"with
 |true=>none
 |false=>match aGn (cP y sc.names)with
  |some _=>cP y t.glbs
  |none=>none
noncomputable def aM8 (a:AV) (name:Str):Way AV:=opt (aGi a) fun k=>bnd getSt fun st=>opt (zT st.objs[k]?) fun y=>
 els ((lB y.1 t.prps).bind (cP name)) (fun f=>aOu K n (.ref f) [.obj k])
 (opt (lB y.1 t.flds) fun l=>grd (aIt name l) (opt (look name y.2) fun b=>grd b.plain (rtn b)))
noncomputable def aOm (a:AV) (name:Str):Way Value:=els (aGi a) (fun k=>bnd getSt fun st=>els (zT st.objs[k]?) (fun y=>opt ((lB y.1 t.mets).bind (cP name)) fun f=>grd (look name y.2).isNone (rtn (.ref f)))
  (els (aOt st.objs[k]?) (fun zz=>opt (cP name t.mDeq) fun id=>rtn (.builtin id)) (opt (aOn st.objs[k]?) fun zz=>opt (cP name t.mLst) fun id=>rtn (.builtin id))))
 (opt (cS a) fun zz=>opt (cP name t.mStr) fun id=>rtn (.builtin id))
noncomputable def eF (l:List Expr):Bool:=l.all fun e=> !isStarred e
noncomputable def iW (l:List Keyword):Bool:=l.all fun k=>k.1.isSome
noncomputable def evs (ev:Expr→Way AV):List Expr→Way (List AV)
 |[]=>rtn []
 |e::r=>bnd (ev e) fun a=>bnd (evs ev r) fun l=>rtn (a::l)
noncomputable def aNw (ev:Expr→Way AV):List Keyword→Way (List (Str×AV))
 |[]=>rtn []
 |k::r=>opt k.1 fun y=>bnd (ev k.2) fun a=>bnd (aNw ev r) fun l=>rtn ((y,a)::l)
noncomputable def zZ (ev:Expr→Way AV) (args:List Expr) (kws:List Keyword):Way (List AV×List (Str×AV)):=bnd (evs ev args) fun vs=>bnd (aNw ev kws) fun kv=>rtn (vs,kv)
noncomputable def dG:Expr→Bool
 | .Call (.Name _ _) [] [] _=>false
 |_=>true
noncomputable def evO (ev:Expr→Way AV):Option Expr→Way (Option Int)
 |none=>rtn none
 |some e=>bnd (ev e) fun a=>opt ((jZ a).map some) rtn
noncomputable def aBp (o:AO):Way AV:=fun st td=>some (.obj st.objs.length,{st with objs:=st.objs++[o]},td,[])
noncomputable def kW (k:Nat) (m:Way AV):Way AV:=grd (Nat.ble k 1000) m
noncomputable def aQf (y:Str) (b:AV):Way AV:=opt (jZ b) fun j=>fun st td=>match td with
 |o::r=>match o with
  | .v a=>match a with
   | .chr k c=>some (.chr k c,st,r,[fitsSsize j=true,Txt.charAt y j=some c,k.has c])
   |_=>none
  |_=>none
 |[]=>none
noncomputable def aGr:Expr→Bool
 | .Constant ..=>true
 | .Name ..=>true
 |_=>false
noncomputable def aR5 (v:Lv) (o i:Expr):Way AV:=match i with
 | .Slice lo hi st _=>match st with
  |none=>bnd (v.ev o) fun a=>opt (cS a) fun y=>bnd (evO v.ev lo) fun l=>bnd (evO v.ev hi) fun u=>aLz (.sym none (Txt.slice y l u))
  |some _=>bad
 |i=>grd (aGr i) (bnd (v.ev o) fun a=>opt (cS a) fun y=>bnd (v.ev i) fun b=>aQf y b)
noncomputable def aLo (v:Lv) (f:Expr) (args:List Expr) (kws:List Keyword) (pos:Pos):Way AV:=match f with
 | .Attribute o name apos=>grd (dG o&&Nat.beq apos.endLine pos.line&&Nat.blt (args.length+kws.length) 20&&(eF args&&iW kws))
   (bnd (v.ev o) fun a=>bnd (aOm t a name) fun f=>bnd (zZ v.ev args kws) fun y=>aH2 K n f (a::y.1) y.2)
 | .Name y _=>grd (eF args&&iW kws) (opt (aBx t sc y) fun u=>bnd (zZ v.ev args kws) fun y=>aH2 K n u y.1 y.2)
 |_=>bad
noncomputable def aSq (y:Expr):Option {i:Int // ∃k p,y= .Constant (.int i) k p}:=match y with
 | .Constant c k p=>match c with
  | .int i=>some ⟨i,k,p,rfl⟩
  |_=>none
 |_=>none
noncomputable def aRp (v:Lv) (op:UnaryOp) (y:Expr):Way AV:=match op with
 | .Not=>bnd (v.ev y) fun a=>bnd (kM a) fun b=>rtn (.bool (!b))
 | .USub=>opt (aSq y) fun i=>rtn (.int (-i.1))
 |_=>bad
noncomputable def aPv (ops:List CmpOp) (rs:List Expr):Option (CmpOp×Expr):=match ops with
 |[]=>none
 |op::ops=>match ops with
  |_::_=>none
  |[]=>match rs with
   |[]=>none
   |r::rs=>match rs with
    |_::_=>none
    |[]=>some (op,r)
theorem aGh {ops:List CmpOp} {rs:List Expr} {y:CmpOp×Expr} (h:aPv ops rs=some y):ops=[y.1]∧rs=[y.2]:=by
 cases ops with
 |nil=>exact bL h
 |cons op ops=>cases ops with
  |cons _ _=>exact bL h
  |nil=>cases rs with
   |nil=>exact bL h
   |cons r rs=>cases rs with
    |cons _ _=>exact bL h
    |nil=>cases h;exact⟨rfl,rfl⟩
noncomputable def evF (v:Lv) (e:Expr):Way AV:=match e with
 | .Constant c _ _=>opt (sJ c) rtn
 | .Name y _=>tU t sc y
 | .Attribute o name _=>grd (dG o) (bnd (v.ev o) fun a=>aM8 K t n a name)
 | .Call f args kws pos=>aLo K t n sc v f args kws pos
 | .BinOp l op r _=>bnd (v.ev l) fun a=>bnd (v.ev r) fun b=>aRw op a b
 | .List elts _=>grd (eF elts) (bnd (evs v.ev elts) fun as=>kW as.length (aBp (.list as)))
 | .Tuple elts _ _=>grd (eF elts) (bnd (evs v.ev elts) fun as=>kW as.length (aBp (.tup as)))
 | .Subscript o i _=>aR5 v o i
 | .UnaryOp op y _=>aRp v op y
 | .Compare l ops rs _=>opt (aPv ops rs) fun y=>grd (!behindInMarks y.1 y.2) (bnd (v.ev l) fun a=>bnd (v.ev y.2) fun b=>bnd (aQe y.1 a b) fun c=>rtn (.bool c))
 | .IfExp c a b _=>bnd (v.tr c) fun r=>match r with
  |true=>v.ev a
  |false=>v.ev b
 |_=>bad
noncomputable def trs (tr:Expr→Way Bool) (op:BoolOp):List Expr→Way Bool
 |[]=>rtn (op== .And)
 |e::r=>bnd (tr e) fun b=>match op,b with
  | .And,false=>rtn false
  | .Or,true=>rtn true
  |_,_=>trs tr op r
noncomputable def aR6 (e:Expr):Option {p:Str // ∃k q,e= .Constant (.str p) k q}:=match e with
 | .Constant c k q=>match c with
  | .str p=>some ⟨p,k,q,rfl⟩
  |_=>none
 |_=>none
noncomputable def aS9 (l:List Expr):Option {y:Str×Str // ∃k p1 k' p2,l=[.Constant (.str y.1) k p1,.Constant (.str y.2) k' p2]}:=match l with
 |[]=>none
 |a::r=>match r with
  |[]=>none
  |b::r=>match r with
   |[]=>match aR6 a with
    |some p=>match aR6 b with
     |some q=>some ⟨(p.1,q.1),match p,q with|⟨_,k,p1,h⟩,⟨_,k',p2,h'⟩=>⟨k,p1,k',p2,h▸h'▸rfl⟩⟩
     |none=>none
    |none=>none
   |_::_=>none
noncomputable def aRm (op:CmpOp) (r:Expr):Option {y:Str×Str // ∃k p1 k' p2 i tp,op= .In∧r= .Tuple [.Constant (.str y.1) k p1,.Constant (.str y.2) k' p2] i tp}:=match op with
 | .In=>match r with
  | .Tuple l i tp=>match aS9 l with
   |some y=>some ⟨y.1,match y with|⟨_,k,p1,k',p2,h⟩=>⟨k,p1,k',p2,i,tp,rfl,h▸rfl⟩⟩
   |none=>none
  |_=>none
 |_=>none
noncomputable def trF (v:Lv) (e:Expr):Way Bool:=match e with
 | .UnaryOp op y _=>match op with
  | .Not=>bnd (v.tr y) fun b=>rtn (!b)
  |_=>bad
 | .BoolOp op vs _=>trs v.tr op vs
 | .Compare l ops rs _=>opt (aPv ops rs) fun y=>els (aRm y.1 y.2) (fun z=>bnd (v.ev l) fun a=>opt (aC7 a) fun s=>rtn (sEq z.1.1 s||sEq z.1.2 s))
   (grd (!behindInMarks y.1 y.2) (bnd (v.ev l) fun a=>bnd (v.ev y.2) fun b=>aQe y.1 a b))
 | .Name a b=>bnd (v.ev (.Name a b)) kM
 | .Attribute a b c=>bnd (v.ev (.Attribute a b c)) kM
 | .Call a b c d=>bnd (v.ev (.Call a b c d)) kM
 | .Subscript a b c=>bnd (v.ev (.Subscript a b c)) kM
 | .Constant a b c=>bnd (v.ev (.Constant a b c)) kM
 |_=>bad
noncomputable def lv:Nat→Lv
 |0=>⟨fun zz=>bad,fun zz=>bad⟩
 |m+1=>⟨fun e=>orElse (evF K t n sc (lv m) e) (aOr K n sc e),fun e=>orElse (trF (lv m) e) (aOb K n sc e)⟩
end
end Mine
end
section
namespace Mine
section
variable {K:Params→Frag} {t:Tab} {n:Nat} {sc:Scope} {x:Cx} {ρ:List OA}
noncomputable abbrev jE (ρ:List OA) (a:AV) (v:Value):Prop:=den ρ a v
noncomputable abbrev yP (ρ:List OA) (a:AFlow) (v:Flow):Prop:=fden ρ a v
theorem aKt {f:Value} {args:List AV} {kws:List (Str×AV)} {vs:List Value} {kvs:List (Str×Value)} (hx:x.Run K n) (ha:All2 (den ρ) args vs) (hk:cY ρ kws kvs):Snd x ρ (aH2 K n f args kws) (call f vs kvs) jE:=.mk fun st td=>by
 cases td with
 |nil=>trivial
 |cons o r=>cases o with
  |c v objs=>exact fun ho=>ho _ (.head _) x hx st.loc ρ vs kvs ha hk
  |_=>trivial
theorem aKr {e:Expr} (hx:x.Ok K n sc):Snd x ρ (aOr K n sc e) (eval e x.env) jE:=.mk fun st td=>by
 cases td with
 |nil=>trivial
 |cons o r=>cases o with
  |e v st'=>exact fun ho=>ho _ (.head _) x hx ρ
  |_=>trivial
theorem aKm {e:Expr} (hx:x.Ok K n sc):Snd x ρ (aOb K n sc e) (isTrue e x.env (eval e x.env)) fun zz b r=>r=b:=.mk fun st td=>by
 cases td with
 |nil=>trivial
 |cons o r=>cases o with
  |e v st'=>cases v with
   |bool b=>exact fun ho=>ho _ (.head _) x hx ρ
   |_=>trivial
  |_=>trivial
theorem aKo {e:Stmt} (hx:x.Ok K n sc):Snd x ρ (aOf K n sc e) (exec e x.env) yP:=.mk fun st td=>by
 cases td with
 |nil=>trivial
 |cons o r=>cases o with
  |s f st'=>exact fun ho=>ho _ (.head _) x hx ρ
  |_=>trivial
theorem Snd.orElse {α β:Type} {m k:Way α} {t:Sem β} {R:List OA→α→β→Prop} (h1:Snd x ρ m t R) (h2:Snd x ρ k t R):Snd x ρ (Mine.orElse m k) t R:=by
 intro st td a st' td' obs e ho
 unfold Mine.orElse at e
 split at e
 ·rename_i r q;cases e;exact h1 _ _ _ _ _ _ q ho
 ·exact h2 _ _ _ _ _ _ e ho
theorem kQ {y:Str} {pos:Pos} (ht:TabOk K t) (hx:x.Ok K n sc):Snd x ρ (tU t sc y) (eval (.Name y pos) x.env) jE:=by
 refine .grd fun hd=> ?_
 have hd':(y==("__debug__":Str))=false:=by rw [jU];exact Bool.not_eq_true' _▸hd
 refine .els (fun zz hk=>.getSt fun st=>.opt (f:=rtn) fun a q=>.rtn (aHi hx (by rw [aN];exact uK hk) q hd')) (.opt fun zz hk=>.opt fun v q=>.rtn' fun st=> ?_)
 exact sT hx (by rw [aN];exact aCf hk) ((ht.glb _ _ q x.w.params).1) hd'
theorem Tri.spliced {y:Sem Value} {rest:List (Bool×Sem Value)} {st st₁ st₂:AS} {p:List OA→Value→Prop} {q:List OA→List Value→Prop} (h:Tri x ρ st y st₁ p)
  (k:∀ρ₁ v,Ext ρ ρ₁→p ρ₁ v→Tri x ρ₁ st₁ (PySem.spliced rest) st₂ fun ρ' vs=>q ρ' (v::vs)):Tri x ρ st (PySem.spliced ((false,y)::rest)) st₂ q:=
 fun s Q E R kk=>spliced_cons (h s _ E R fun v s₁ ρ₁ R₁ N₁ pv=>k ρ₁ v N₁.to pv s₁ _ E R₁ fun vs s₂ ρ₂ R₂ N₂ pq=>kk _ s₂ ρ₂ R₂ (N₁.trans N₂) pq)
theorem bU {e:Expr} {r:List Expr} {env:Env} (h:isStarred e=false):starEach (e::r) env=(false,eval e env)::starEach r env:=by
 cases e<;>first|rfl|exact aOx h
theorem rR {pos:Pos} {t:Sem Value} {r:List (Bool×Sem Value)}:backTo pos ((false,t)::r)=(false,t)::backTo pos r:=rfl
noncomputable abbrev nV (x:Cx) (ev:Expr→Way AV):Prop:=∀ρ e,Snd x ρ (ev e) (eval e x.env) jE
theorem Snd.spliced {α:Type} {m:Way AV} {f:AV→Way α} {y:Sem Value} {rest:List (Bool×Sem Value)} {R:List OA→AV→Value→Prop} {R':List OA→α→List Value→Prop} (h:Snd x ρ m y R)
  (k:∀ρ₁ a v,Ext ρ ρ₁→R ρ₁ a v→Snd x ρ₁ (f a) (PySem.spliced rest) fun ρ' b vs=>R' ρ' b (v::vs)):Snd x ρ (Mine.bnd m f) (PySem.spliced ((false,y)::rest)) R':=by
 intro st td c st₂ td₂ obs e ho
 refine aH8 (eT e) fun a st₁ td₁ o₁ o₂ e1 e2 q=> ?_
 subst q
 exact Tri.spliced (h _ _ _ _ _ _ e1 fun p hp=>ho p (List.mem_append_left _ hp)) fun ρ₁ v ex dv=>k ρ₁ a v ex dv _ _ _ _ _ _ e2 fun p hp=>ho p (List.mem_append_right _ hp)
theorem sE {ev:Expr→Way AV} (h:nV x ev) {pos:Pos}:∀(l:List Expr),eF l=true→∀ρ:List OA,Snd x ρ (evs ev l) (spliced (backTo pos (starEach l x.env))) fun ρ' as vs=>All2 (den ρ') as vs
 |[],_,ρ=>.rtn' fun st=>Tri.pure .nil
 |e::r,q,ρ=>.re (congrArg (fun l=>spliced (backTo pos l)) (bU (Bool.not_eq_true' _▸(gJ q).1)))
   (Snd.spliced (h ρ e) fun ρ₁ a v ex dv=>Snd.map (f:=fun l=>a::l) (R:=fun ρ' l vs=>All2 (den ρ') (a::l) (v::vs)) ((sE h r (gJ q).2 ρ₁).imp fun ρ₂ l vs ex2 dvs=>.cons (ex2.den dv) dvs) fun zz zz zz q=>q)
theorem qC {env:Env} {pos:Pos}:∀{l:List Expr},eF l=true→(backTo pos (starEach l env)).any (·.1)=false
 |[],_=>rfl
 |e::r,q=>by
  rw [bU (Bool.not_eq_true' _▸(gJ q).1),rR,List.any_cons,qC (gJ q).2]
  rfl
theorem aB9 {ev:Expr→Way AV} (h:nV x ev) {pos:Pos}:∀(l:List Keyword) (ρ:List OA),Snd x ρ (aNw ev l) (evalAll ((backToKw pos (keywordEach l x.env)).map (·.2)))
  fun ρ' as vs=>cY ρ' as (((backToKw pos (keywordEach l x.env)).filterMap (·.1)).zip vs)
 |[],ρ=>.rtn' fun st=>Tri.pure .nil
 |⟨o,e,p⟩::r,ρ=>.opt fun y q=>by
  cases q
  show Snd x ρ _ (do let v←(do let v←eval e x.env;standAt pos;pure v);return v::(←holding [v] (evalAll _))) _
  refine Snd.bnd (R:=jE) (fun st td a st' td' obs e1 ho=>(h ρ e _ _ _ _ _ _ e1 ho).bind fun ρ₁ v ex d=>Tri.standAt (Tri.pure d)) fun ρ₁ a v ex d=> ?_
  exact Snd.bnd (aB9 h r ρ₁).holding fun ρ₂ as vs ex2 dvs=>.rtn (.cons ⟨rfl,ex2.den d⟩ dvs)
theorem jP {env:Env} {pos:Pos}:∀{l:List Keyword},iW l=true→(backToKw pos (keywordEach l env)).any (·.1.isNone)=false
 |[],_=>rfl
 |⟨o,e,p⟩::r,q=>by
  have q:=gJ (a:=o.isSome) (b:=iW r) q
  cases o with
  |none=>exact nomatch q.1
  |some y=>
   show(false||(backToKw pos (keywordEach r env)).any (·.1.isNone))=false
   rw [jP q.2]
   rfl
theorem dB {M:Model} {K:Frag} {f:Value} {h:Heap} (e:iN K f=true) (X:K.In h):∃k,(k=Keeper.frame∨k=Keeper.machine∨k=Keeper.boundFrame)∧Looks M h (keeperOf f) k:=by
 cases f with
 |builtin i=>exact⟨.machine,.inr (.inl rfl),Looks.of_pure rfl⟩
 |type i=>exact⟨.machine,.inr (.inl rfl),Looks.of_pure rfl⟩
 |ref a=>
  rcases(Bool.or_eq_true _ _).mp e with e|e
  ·refine aH (looks_keep (M:=M) e X) fun k a b=>⟨k,a.elim .inl fun q=>.inr (.inl q),b⟩
  ·exact aH9 (aO6 e) fun d vs sl q=>⟨.machine,.inr (.inl rfl),(Looks.ld (part:=none) (X _ _ q)).andThen .now⟩
 |_=>exact mV e
theorem aEf {ev:Expr→Way AV} {f:Value} {as:List Expr} {ks:List Keyword} {pos:Pos} (h:nV x ev) (hp:(eF as&&iW ks)=true):
  Snd x ρ (zZ ev as ks) (evalArgs f true (backTo pos (starEach as x.env)) (backToKw pos (keywordEach ks x.env))) fun ρ' y a=>All2 (den ρ') y.1 a.pos∧cY ρ' y.2 a.kw:=by
 have hall:(backToKw pos (keywordEach ks x.env)).all (·.1.isSome)=true:=by
  have p2:=jP (env:=x.env) (pos:=pos) (gJ hp).2
  rw [List.all_eq_true]
  intro y hy
  have:=List.any_eq_false.mp p2 y hy
  cases q:y.1 with
  |none=>rw [q]at this;exact absurd rfl this
  |some _=>rfl
 have rest:∀(ρ₁:List OA) (vs:List AV) (l:List Value),All2 (den ρ₁) vs l→Snd x ρ₁ (bnd (aNw ev ks) fun kv=>rtn (vs,kv)) (holding (l++(none:Option Value).toList) do
    let kw:=((backToKw pos (keywordEach ks x.env)).filterMap (·.1)).zip (←evalAll ((backToKw pos (keywordEach ks x.env)).map (·.2)))
    return (⟨l,kw⟩:Args)) fun ρ' y a=>All2 (den ρ') y.1 a.pos∧cY ρ' y.2 a.kw:=fun ρ₁ vs l dl=>
  Snd.holding (Snd.bnd (aB9 h ks ρ₁) fun ρ₂ kv kvs ex2 dk=>.rtn ⟨ex2.dens dl,dk⟩)
 have first:=sE (pos:=pos) h as (gJ hp).1 ρ
 unfold evalArgs
 rw [hall]
 cases as with
 |nil=>exact Snd.bnd first fun ρ₁ vs l ex dl=>rest ρ₁ vs l dl
 |cons e r=>
  rw [bU (Bool.not_eq_true' _▸(gJ (gJ hp).1).1),rR]at first⊢
  exact Snd.bnd first fun ρ₁ vs l ex dl=>rest ρ₁ vs l dl
theorem aBc {ev:Expr→Way AV} {f:Value} {pre:List AV} {first:List Value} {as:List Expr} {ks:List Keyword} {pos pos':Pos} (hx:x.Run K n) (h:nV x ev) (hf:iN (K x.w.params) f=true) (hp:All2 (den ρ) pre first) (hq:(eF as&&iW ks)=true):
  Snd x ρ (bnd (zZ ev as ks) fun y=>aH2 K n f (pre++y.1) y.2) (callWith pos f first (backTo pos' (starEach as x.env)) (backToKw pos' (keywordEach ks x.env))) jE:=by
 intro st td a st₂ td₂ obs hh ho s Q E R kk
 refine aH8 (eT hh) fun y st₁ td₁ o₁ o₂ e1 e2 q=> ?_
 subst q
 refine callWith_of (P:=fun h=>(K x.w.params).In h) (by rw [qC (gJ hq).1,jP (gJ hq).2];rfl) (fun h X=>dB hf X) ?_
 refine aEf h hq _ _ _ _ _ _ e1 (fun p hp=>ho p (List.mem_append_left _ hp)) s _ E R fun av s₁ ρ₁ R₁ N₁ d=>⟨hx.glo.X.keeps R₁.base, ?_⟩
 exact aKt hx ((N₁.to.dens hp).append d.1) d.2 _ _ _ _ _ _ e2 (fun p hp'=>ho p (List.mem_append_right _ hp')) s₁ Q E R₁ fun v s₂ ρ₂ R₂ N₂ dv=>kk v s₂ ρ₂ R₂ (N₁.trans N₂) dv
end
end Mine
end
section
namespace Mine
theorem pJ {id:String} {args:Args} (h:(id=="gc.ask")=false):hG (.builtin id args)=denote table (.builtin id args):=by
 refine aA6 ?_
 cases q:rC (.builtin id args)with
 |false=>rfl
 |true=>
  refine cB (aCg q) fun t e=> ?_
  cases e
  rw [beq_self_eq_true]at h
  cases h
section
variable {prog:Program} {w:World} {A:Around} {R:Result→Shared→Prop} {s:Shared} {E:Value→Shared→Prop}
theorem cD {id:String} {args:Args} {b:Builtin} (hne:(id=="gc.ask")=false) (hb:entryFor table id=some b)
  (h:wpAny (aP prog w) (A.under (.builtin id args)) (b args) (fun fin s'=>match fin with| .done f=>R (.ok f) s'| .again c'=>c'.quiet=true∧codeAny (aP prog w) A c' R s') (fun e s'=>R (.error e) s') s):
  codeAny (aP prog w) A (.builtin id args) R s:=by
 refine codeAny_of_tree ?_
 show wpAny _ _ (hG (.builtin id args)) _ _ s
 rw [pJ hne,vA hb]
 exact h
theorem eC {id:String} {args:Args} {b:Builtin} (hne:(id=="gc.ask")=false) (hq:plainId id=true) (hb:entryFor table id=some b)
  (h:wpAny (aP prog w) A.in1 (checkBuiltinCall id args) (fun zz s₁=>wpAny (aP prog w) A.in1 (b args)
   (fun fin s'=>match fin with| .done f=>R (.ok f) s'| .again c'=>c'.quiet=true∧codeAny (aP prog w) A c' R s') (fun e s'=>R (.error e) s') s₁) (fun e s'=>R (.error e) s') s):
  codeAny (aP prog w) A (.call (.builtin id) args) R s:=by
 refine codeAny_of_tree ?_
 show wpAny _ A.in1 (callAny (.builtin id) args) _ _ s
 simp only [callAny]
 refine wpAny_bind (wpAny_mono h (fun zz s₁ h₁=>wpAny_pure ⟨plainId_quiet hq args,cD hne hb ?_⟩) fun zz zz e=>e)
 rw [Around.under_plainId hq args]
 exact h₁
variable {K:Frag} {y C:Addr} {ox:Obj} {od:Option Obj} {name:Str} {expr:Bool} {Q:Value→Shared→Prop}
theorem aJ5 {g a:Value} (X:K.In s.heap) (I:InstAt s.heap y ox C od) (hga:findIn K (.ref C) "__getattribute__"=some (some (.builtin "object.__getattribute__")))
  (hf:findObj K C od name=some (.bind g a)) (hk:findIn K (.ref C) "__getattr__"=some none)
  (h:wpAny (aP prog w) A.in1 (call g [a,.ref y,.ref C]) (fun v s'=>wpAny (aP prog w) A (handedOut v) Q E s') (fun e s'=>wpAny (aP prog w) A (noteIf true (.ref y) (.str name s.toks) e) (fun zz s''=>E e s'') E s') {s with toks:=s.toks+1}):
  wpAny (aP prog w) A (getAttr (.ref y) name expr) Q E s:=by
 obtain⟨hh,gg,d,t,os⟩:=s
 have L0:=I.type (M:=aP prog w)
 have L1:=looks_findIn (M:=aP prog w) X hga
 have L2:=looks_find (M:=aP prog w) X I hf
 have L3:=looks_findIn (M:=aP prog w) X hk
 unfold getAttr getAttrBy
 refine wpAny_bind (wpAny_mkText (wpAny_holding (wpAny_bind (L0.at (wpAny_bind (L1.at ?_))))))
 show wpAny _ _ (getAttrEveryday _ _ _) _ _ _
 refine wpAny_bind (wpAny_onRaise (wpAny_runValue (cD (by decide) F.plainObj_entry_getattr_hooked ?_)))
 refine wpAny_bind (wpAny_pure (wpAny_bind (L0.at (wpAny_bind (L2.at (wpAny_bind (L3.at ?_)))))))
 show wpAny _ _ (holding [a] (call g [a,.ref y,.ref C])>>=ret) _ _ _
 exact wpAny_bind (wpAny_holding (wpAny_mono h (fun v s' z=>wpAny_pure z) fun zz zz z=>z))
theorem aIi {p x fget:Addr} {rest:List Value} {tp:Value} (X:K.In s.heap) (hp:recIn K p "property"=some (.ref fget::rest))
  (h:codeAny (aP prog w) A (.call (.ref fget) ⟨[.ref x],[]⟩) R s):codeAny (aP prog w) A (.call (.builtin "property.__get__") ⟨[.ref p,.ref x,tp],[]⟩) R s:=by
 refine iK (rec_of X hp) fun d sl ho=> ?_
 obtain⟨hh,g,dr,t,os⟩:=s
 refine eC (by decide) KF.slot_prop.plain KF.entry_prop (KF.slot_prop.check _ _ _ _ _ _ _ _ ⟨_,ho,rfl⟩ (KF.args_prop _ _ _) ?_)
 unfold Builtin.«property.__get__» Builtin.Getset_descriptor.descrGetArgs
 dsimp only at ho
 repeat lk
 exact⟨rfl,h⟩
end
end Mine
end
section
namespace Mine
section
variable {K:Params→Frag} {t:Tab} {n:Nat} {sc:Scope} {x:Cx} {ρ:List OA} {a:AV} {v:Value} {name:Str}
theorem aCl {K:Frag} {C:Addr} (h:hasDictIn K C=true):(W.clsIn K C).isSome=true:=by
 refine aH (any_some h) fun cd hc zz=> ?_
 rw [hc];rfl
noncomputable def Cx.in1 (x:Cx):Cx:={x with A:=x.A.in1}
theorem Cx.Run.in1 (h:x.Run K (n+1)):x.in1.Run K n:=⟨h.glo,h.frames,⟨by have:=h.bud.1;show x.A.depth+2*n+2≤_;lia,by have:=h.bud.2;show x.A.units+1+40*n+40≤_;lia⟩,h.handled⟩
theorem aK7 {expr:Bool} {k:Nat} {C f:Addr} {fs:List (Str×AV)} {st:AS} {r:AV} {objs':List AO} (ht:TabOk K t) (hx:x.Run K (n+1)) (ho:st.objs[k]?=some (.inst C fs)) {l:List (Str×Addr)} (h1:lB C t.prps=some l) (h2:cP name l=some f)
  (hp:r.plain=true) (hc:DoesCode K n (.ref f) [.obj k] [] st.objs r objs') (d:den ρ (.obj k) v):
  Tri x ρ st (getAttr v name expr) {st with objs:=objs'} fun ρ' r'=>den ρ' r r':=by
 intro s Q E R kk
 refine nW (R.inst ho d) fun y dx es m hy q5_ hd g1 g2 hf=> ?_;subst q5_
 obtain⟨pg,hdi,p,rest,e1,e2,e3,e4⟩:=ht.prp _ _ _ _ h1 h2 x.w.params
 have X:=hx.glo.X.keeps R.base
 refine aJ5 X (jN g1 g2) (plainGet_of pg).1 (findObj_data (aCl hdi) e1 e2 e3) (plainGet_of pg).2 ?_
 refine wpAny_call (aIi (s:={s with toks:=s.toks+1}) X e4 ?_)
 refine hc x.in1 hx.in1 st.loc ρ [.ref y.a] [] (.cons d .nil) .nil _ _ _ (R.toks (Nat.succ_pos _)) fun u s' ρ' R' N' du=> ?_
 exact handed_on (AV.plain_handed hp du) (kk u s' ρ' R' ⟨N'.ext,N'.keep,N'.gens,N'.os⟩ du)
theorem aI7 {f:Value} {args:List AV} {st:AS} {u:Sem Value} (h:∀m,n=m+1→∀r objs,r.plain=true→DoesCode K m f args [] st.objs r objs→Tri x ρ st u {st with objs:=objs} fun ρ' v=>den ρ' r v):SndS x ρ st (aOu K n f args) u jE:=.mk fun td=>by
 cases n with
 |zero=>trivial
 |succ m=>cases td with
  |nil=>trivial
  |cons o r=>cases o with
   |c w objs=>
    show aO8 x ρ st u jE (match w.plain with|true=>_|false=>_)
    cases hp:w.plain with
    |true=>exact fun ho=>h m rfl w objs hp (ho _ (.head _))
    |false=>trivial
   |_=>trivial
theorem aBb {expr:Bool} (ht:TabOk K t) (hx:x.Run K n) (d:den ρ a v):Snd x ρ (aM8 K t n a name) (getAttr v name expr) jE:=by
 refine .opt fun k hk=> ?_
 cases tO hk
 refine .getSt fun st=>.opt fun y q=>.els (fun f q2=> ?_) (.opt fun l q3=>.grd fun q4=>.opt (f:=fun b:AV=>grd b.plain (rtn b)) fun b q5=>.grd fun q6=>.rtn ?_)
 ·refine aH (Option.bind_eq_some_iff.mp q2) fun l q3 q4=>aI7 fun m hm r objs hp hc=> ?_
  subst hm
  exact aK7 ht hx (lT q) q3 q4 hp hc d
 ·exact aHk hx (lT q) q5 q6 (ht.fld _ _ _ q3 q4 x.w.params).1 d
theorem jG {id:String} {y:Str} {tk:Tok} {pl:Sem Bool} {K:Frag} {st:AS} (hm:hM "str" name id):Tri x ρ st (getMethod (.str y tk) name pl) st fun zz r=>r=(.builtin id,[.str y tk])∧iN K (.builtin id)=true:=
 fun s Q E R kk=>by
  obtain⟨h1,h2,h3⟩:=hm
  have hq:=kk (.builtin id,[.str y tk]) s ρ R (.refl ..) ⟨rfl,rfl⟩
  with_reducible exact getMethod_builtin (typeIs_str _ _ _) h1 h2 h3 (fun a ha=>nomatch ha) hq
set_option maxRecDepth 4000 in
theorem aKp {pl:Sem Bool} (ht:TabOk K t) (hx:x.Run K n) (d:den ρ a v):Snd x ρ (aOm t a name) (getMethod v name pl) fun zz f r=>r=(f,[v])∧iN (K x.w.params) f=true:=by
 have lib:∀{T id:String} {st:AS},hM T name id→(∀s:Shared,Rel x.hb x.L x.fr ρ st s→s.TypeIs v T)→(∀s:Shared,Rel x.hb x.L x.fr ρ st s→∀a,v= .ref a→∃o,s.heap.get? a=some o∧o.dict=none)→
   Tri x ρ st (getMethod v name pl) st fun zz r=>r=(.builtin id,[v])∧iN (K x.w.params) (.builtin id)=true:=fun hm hT hd s Q E R kk=>
  getMethod_builtin (hT s R) hm.1 hm.2.1 hm.2.2 (hd s R) (kk _ s ρ R (.refl ..) ⟨rfl,rfl⟩)
 refine .els (fun k hk=> ?_) (.opt fun y q=>.opt fun id q2=>.rtn' fun st=> ?_)
 ·cases tO hk
  have at_:∀{st:AS} {o:AO},st.objs[k]?=some o→∀s:Shared,Rel x.hb x.L x.fr ρ st s→∃y:OA,v= .ref y.a∧ORel ρ s.heap y o:=fun q s R=>
   aH d fun z hz e=>aH (R.objs k _ q) fun y hy r=>⟨y,by rw [e,Option.some.inj (hy.symm.trans hz)],r⟩
  refine .getSt fun st=>.els (fun y q=>.opt fun f q2=>.grd fun q3=>.rtn fun s Q E R kk=> ?_) (.els (fun xs q=>.opt fun id q2=>.rtn (lib (ht.deq _ _ q2) (fun s R=> ?_) fun s R a ha=> ?_)) (.opt fun xs q=>.opt fun id q2=>.rtn (lib (ht.lst _ _ q2) (fun s R=> ?_) fun s R a ha=> ?_)))
  ·refine aF fun gq hgq=> ?_
   refine aH (Option.bind_eq_some_iff.mp q2) fun l q4 q5=> ?_
   refine vW (ht.met _ _ _ _ q4 q5 x.w.params) fun pg h1 h2 h3=> ?_
   refine nW (R.inst (lT q) d) fun y' dx es m hy q5_ hd g1 g2 hf=> ?_
   subst q5_
   subst hgq
   have hg:=zW (name:=name) hf
   rw [Option.isNone_iff_eq_none.mp q3]at hg
   exact to1 (method_fn (hx.glo.X.keeps R.base) (jN g1 g2) (plainGet_of pg).1 (plainGet_of pg).2 h1 h2 (by show(lookIn name (dictOf es m)).map (·.isSome)=_;rw [lookIn_dict,hg];rfl) (kk _ s ρ R (.refl ..) ⟨rfl,h3⟩))
  ·obtain⟨y,rfl,vs,m,hd,h1,h2⟩:=at_ (aCt q) s R;exact⟨_,h1,rfl⟩
  ·obtain⟨y,rfl,vs,m,hd,h1,h2⟩:=at_ (aCt q) s R;cases ha;exact⟨_,h1,rfl⟩
  ·obtain⟨y,rfl,vs,m,hd,h1,h2⟩:=at_ (aC3 q) s R;exact⟨_,h1,rfl⟩
  ·obtain⟨y,rfl,vs,m,hd,h1,h2⟩:=at_ (aC3 q) s R;cases ha;exact⟨_,h1,rfl⟩
 ·obtain⟨tk,rfl,_⟩:=bK q d
  exact jG (K:=K x.w.params) (ht.str name id q2)
theorem hK {o:Expr} {env:Env} {whole:Sem Value} (h:dG o=true):attributeBase o name env whole=whole:=by
 cases o with
 |Call f a k p=>cases f with
  |Name y q=>cases a with
   |nil=>cases k with
    |nil=>exact nomatch h
    |cons _ _=>rfl
   |cons _ _=>rfl
  |_=>rfl
 |_=>rfl
theorem oH {o:Expr} {m:Way AV} (h:dG o=true) (k:Snd x ρ m (eval o x.env) jE):Snd x ρ m (attributeBase o name x.env (eval o x.env)) jE:=by
 rw [hK h];exact k
noncomputable abbrev aMe (x:Cx) (tr:Expr→Way Bool):Prop:=∀ρ e,Snd x ρ (tr e) (isTrue e x.env (eval e x.env)) fun zz b r=>r=b
theorem zP {y:Str} {u:Value} (h:aBx t sc y=some u):tU t sc y=rtn (.val u)∧cP y t.glbs=some u:=by
 unfold aBx at h
 cases q1:sEq y "__debug__"with
 |true=>rw [q1]at h;exact bL h
 |false=>
  cases q2:aGn (cP y sc.names)with
  |none=>rw [q1,q2]at h;exact bL h
  |some c=>
   rw [q1,q2]at h
   have h:cP y t.glbs=some u:=h
   refine⟨?_,h⟩
   unfold tU
   rw [q1,aCf q2,h]
   rfl
theorem aNv {l:List (Bool×Sem Value)} {k:List (Option Str×Sem Value)} {m:Nat} (h1:l.any (·.1)=false) (h2:k.any (·.1.isNone)=false) (hm:m<20):methodCallForm m l k=true:=by
 unfold methodCallForm
 rw [Bool.and_eq_true,Bool.and_eq_true,List.all_eq_true,List.all_eq_true,decide_eq_true_eq]
 refine⟨⟨fun y hy=> ?_,fun y hy=> ?_⟩,by split<;>lia⟩
 ·rw [List.any_eq_false]at h1;have:=h1 y hy;simpa using this
 ·rw [List.any_eq_false]at h2;have:=h2 y hy;cases q:y.1 with|none=>rw [q]at this;exact absurd rfl this|some _=>rfl
theorem Rel.push {hb:Heap} {L:Addr} {fr:List Env} {ρ:List OA} {st:AS} {s:Shared} (R:Rel hb L fr ρ st s) (o:Obj) {k:Nat} (hk:0<k):Rel hb L fr ρ st {s with heap:=s.heap.push o,toks:=k}:=(R.grow fun b o' e=>Heap.get?_push_of_some o e).toks hk
theorem Next.push {L:Addr} {ρ ρ':List OA} {s s':Shared} (N:Next L ρ s ρ' s') (o:Obj) (k:Nat):Next L ρ s ρ' {s' with heap:=s'.heap.push o,toks:=k}:=
 ⟨N.ext,fun b o' e h1 h2=>let ⟨o₂,e₂,x₂⟩:=N.keep b o' e h1 h2;⟨o₂,Heap.get?_push_of_some o e₂,x₂⟩,N.gens,N.os⟩
theorem Rel.pushNew {hb:Heap} {L:Addr} {fr:List Env} {ρ:List OA} {st:AS} {s:Shared} (R:Rel hb L fr ρ st s) {o:Obj} {ao:AO} (r:ORel (ρ++[⟨s.heap.objs.size,none⟩]) (s.heap.push o) ⟨s.heap.objs.size,none⟩ ao):
  Rel hb L fr (ρ++[⟨s.heap.objs.size,none⟩]) {st with objs:=st.objs++[ao]} {s with heap:=s.heap.push o}:=
 R.track (fun b o' e=>Heap.get?_push_of_some o e) (by intro a ha;rcases List.mem_cons.mp ha with rfl|ha;exact Heap.get?_none_of_le (Nat.le_refl _);cases ha) (by simp) r
theorem Next.pushNew {L:Addr} {ρ:List OA} {s:Shared} (o:Obj):Next L ρ s (ρ++[⟨s.heap.objs.size,none⟩]) {s with heap:=s.heap.push o}:=
 Next.track (fun b o' e=>Heap.get?_push_of_some o e) (by intro a ha;rcases List.mem_cons.mp ha with rfl|ha;exact Heap.get?_none_of_le (Nat.le_refl _);cases ha)
theorem bV {ρ:List OA} {st:AS} {hb:Heap} {L:Addr} {fr:List Env} {s:Shared} (R:Rel hb L fr ρ st s) (y:OA):den (ρ++[y]) (.obj st.objs.length) (.ref y.a):=⟨y,by rw [←R.len];simp,rfl⟩
theorem aB7 {as:List AV} {o:AO} {u:Sem Value} {ρ:List OA} (h:as.length≤sizeLine→∀st,Tri x ρ st u {st with objs:=st.objs++[o]} fun ρ' v=>den ρ' (.obj st.objs.length) v):Snd x ρ (kW as.length (aBp o)) u jE:=
 .grd fun q=>.mk fun st td zz=>h (by have:=Nat.le_of_ble_eq_true q;rw [sizeLine_eq];exact Nat.le_trans this (by decide)) st
theorem aI6 {as:List AV} {vs:List Value} (d:All2 (den ρ) as vs):Snd x ρ (kW as.length (aBp (.list as))) (newList vs) jE:=
 aB7 fun hl st s Q E R kk=>wpAny_newList (kk _ _ _ (R.pushNew ⟨vs,_,rfl,Heap.get?_push_size _ rfl,d.mono fun zz zz q=>cA q⟩) (Next.pushNew _) (bV R _)) (by rw [←d.length];exact hl)
theorem aI5 {as:List AV} {vs:List Value} (d:All2 (den ρ) as vs):Snd x ρ (kW as.length (aBp (.tup as))) (newTuple vs) jE:=
 aB7 fun hl st s Q E R kk=>wpAny_newTuple (kk _ _ _ (R.pushNew ⟨vs,_,rfl,Heap.get?_push_size _ rfl,d.mono fun zz zz q=>cA q⟩) (Next.pushNew _) (bV R _)) (by rw [←d.length];exact hl)
theorem aG5 {ev:Expr→Way AV} (h:nV x ev):∀(e:Option Expr) (ρ:List OA),Snd x ρ (evO ev e) (valueOrNone (evalOpt e x.env)) fun zz i v=>∃q:Option (Int×Tok),v=partValue q∧q.map (·.1)=i
 |none,ρ=>.rtn ⟨none,rfl,rfl⟩
 |some e,ρ=>(h ρ e).mapO (f:=fun a=>(jZ a).map some) fun ρ₁ a b c q d=>aH (Option.map_eq_some_iff.mp q) fun j q1 q2=>cB (dH q1 d) fun t q3=>⟨some (j,t),q3,q2⟩
theorem uI {M:Model} {A:Around} {E:Value→Shared→Prop} {s:Shared} {y:Str} {t:Tok} {Q:Bool→Shared→Prop} (h:Q false s):wpAny M A (getitemInPython (.str y t)) Q E s:=by
 rw [getitemInPython_of_ne (by intro h;cases h)]
 exact wpAny_bind (wpAny_specialOf (typeIs_str _ _ _) F.slot_str_getitem.lookup (wpAny_pure h))
theorem aIa {prog:Program} {w:World} {A:Around} {E:Value→Shared→Prop} {s:Shared} {y:Str} {t:Tok} {i j:Option (Int×Tok)} {a:Addr} {Q:Value→Shared→Prop} (hs:s.heap.IsSlice a i j none) (hl:y.length≤sizeLine)
  (h:∀t' k,Q (.str (Txt.slice y (i.map (·.1)) (j.map (·.1))) t') {s with toks:=k}):wpAny (model prog w) A (getItem (.str y t) (.ref a)) Q E s:=
 wpAny_getItem_str_slice hs rfl (post_val_or_str ⟨Nat.le_trans (Txt.slice_le y _ _) hl,h⟩)
theorem aHg {o:Expr} {lo hi:Option Expr} {y:Str} {t:Tok} {l u:Option Int} {p pos:Pos} {st st₁ st₂:AS} (hl:y.length≤sizeLine) (hlo:∀ρ,Tri x ρ st (valueOrNone (evalOpt lo x.env)) st₁ fun zz v=>∃q:Option (Int×Tok),v=partValue q∧q.map (·.1)=l)
  (hhi:∀ρ,Tri x ρ st₁ (valueOrNone (evalOpt hi x.env)) st₂ fun zz v=>∃q:Option (Int×Tok),v=partValue q∧q.map (·.1)=u):
  Tri x ρ st (do let i←holding [.str y t] (eval (.Slice lo hi none p) x.env);standAt pos;let r←subscripted (.Slice lo hi none p) (←getitemInPython (.str y t)) (.str y t) i;letTemporaryGo o (.str y t) r;pure r) st₂ fun ρ' r=>den ρ' (.sym none (Txt.slice y l u)) r:=by
 intro s Q E R kk
 refine gK R.tk ?_
 refine wpAny_bind (wpAny_holding ?_)
 rw [arm_eval_Slice]
 refine wpAny_bind ((hlo ρ) s _ _ R fun vl s₁ ρ₂ R₂ N₂ e₂=> ?_)
 refine wpAny_bind (wpAny_holding ((hhi ρ₂) s₁ _ _ R₂ fun vu s₂ ρ₃ R₃ N₃ e₃=> ?_))
 refine aH e₂ fun q q1_ q2_=> ?_;subst q1_;subst q2_
 refine aH e₃ fun q' q1_ q2_=> ?_;subst q1_;subst q2_
 refine wpAny_bind (wpAny_holding (wpAny_pure ?_))
 refine wpAny_newObj_type ?_ (by show 3≤_;rw [sizeLine_eq];decide)
 refine wpAny_bind (wpAny_standAt (wpAny_bind (uI (wpAny_bind ?_))))
 show wpAny _ _ (operate _ (getItem _ _)) _ _ _
 refine wpAny_operate' (to1 (aIa ⟨_,Heap.get?_push_size _ rfl,rfl,rfl⟩ hl fun t' k=> ?_))
 refine wpAny_bind (to1 (wpAny_letTemporaryGo (wpAny_pure ?_)))
 intro ht
 exact kk _ _ ρ₃ (R₃.push _ ht) ((N₂.trans N₃).push _ _) ⟨⟨_,rfl⟩,Nat.le_trans (Txt.slice_le y _ _) hl,(by intro h;cases h),(by intro h;cases h)⟩
theorem aMs {o i:Expr} {y:Str} {t t':Tok} {j:Int} {k:Cls} {c:Nat} {st:AS} (hi:aGr i=true) (h1:fitsSsize j=true) (h2:Txt.charAt y j=some c) (h3:k.has c):
  Tri x ρ st (do let r←subscripted i (←getitemInPython (.str y t)) (.str y t) (.int j t');letTemporaryGo o (.str y t) r;pure r) st fun ρ' v=>den ρ' (.chr k c) v:=by
 intro s Q E R kk
 refine gK R.tk ?_
 refine wpAny_bind (uI (wpAny_bind ?_))
 have:subscripted i false (.str y t) (.int j t')=operate [.str y t,.int j t'] (getItem (.str y t) (.int j t')):=by
  cases i<;>first|rfl|cases hi
 rw [this]
 have e:Txt.item y j=⟨#[c]⟩:=by unfold Txt.item;rw [h2];rfl
 refine wpAny_operate' (to1 (SB.getItem h1 (by rw [h2];rfl) ?_))
 rw [e]
 refine wpAny_bind (to1 (wpAny_letTemporaryGo (wpAny_pure ?_)))
 intro ht
 exact kk _ _ ρ (R.toks ht) ((Next.refl ..).toks _) ⟨⟨_,rfl⟩,h3⟩
theorem aN4 {o i:Expr} {y:Str} {t:Tok} {b:AV} {u:Value} (hi:aGr i=true) (db:den ρ b u):
  Snd x ρ (aQf y b) (do let r←subscripted i (←getitemInPython (.str y t)) (.str y t) u;letTemporaryGo o (.str y t) r;pure r) jE:=by
 refine .opt fun j q=>.mk fun st td=> ?_
 obtain⟨t',rfl⟩:=dH q db
 cases td with
 |nil=>trivial
 |cons o r=>cases o with
  |v a=>cases a with
   |chr k c=>exact fun ho=>aMs hi (ho _ (.head _)) (ho _ (.tail _ (.head _))) (ho _ (.tail _ (.tail _ (.head _))))
   |_=>trivial
  |_=>trivial
theorem aEe {lv:Lv} {f:Expr} {args:List Expr} {kws:List Keyword} {pos:Pos} (ht:TabOk K t) (hx:x.Ok K n sc) (h1:nV x lv.ev):Snd x ρ (aLo K t n sc lv f args kws pos) (eval (.Call f args kws pos) x.env) jE:=by
 cases f with
 |Attribute o name apos=>
  refine .grd fun hc=>.re (arm_eval_Call ..) ?_
  have hc:=aO7 hc
  refine Snd.bnd (oH hc.1 (h1 _ _)) fun ρ₁ a v ex d=>Snd.standAt ?_
  unfold methodCall
  rw [aNv (qC (gJ hc.2.2.2).1) (jP (gJ hc.2.2.2).2) (Nat.lt_of_lt_of_le (Nat.lt_succ_self _) (Nat.le_of_ble_eq_true hc.2.2.1))]
  have hpos:methodCallPos true o x.env apos pos=pure pos:=by
   unfold methodCallPos
   rw [show(apos.endLine==pos.line)=true from by simpa using Nat.eq_of_beq_eq_true hc.2.1];rfl
  refine Snd.bnd (Snd.holding (aKp ht hx.toRun d)) fun ρ₂ f r ex2 hr=> ?_
  obtain⟨rfl,hk⟩:=hr
  rw [hpos]
  exact aBc (pre:=[a]) hx.toRun h1 hk (.cons (ex2.den d) .nil) hc.2.2.2
 |Name y p=>
  refine .grd fun hq=>.opt fun u q=>.re (arm_eval_Call_Name' ..) ?_
  obtain⟨q1,q2⟩:=zP q
  intro st td b st' td' obs e ho
  have hn:=kQ (x:=x) (ρ:=ρ) (y:=y) (pos:=p) ht hx
  rw [q1]at hn
  refine(hn st td (.val u) st td [] rfl (fun zz h=>nomatch h)).bind fun ρ₁ v ex d=> ?_
  have:v=u:=d
  subst this
  exact aBc (pre:=[]) hx.toRun h1 (ht.glb _ _ q2 x.w.params).2 .nil hq _ _ _ _ _ _ e ho
 |_=>exact .bad
theorem aN3 {lv:Lv} {o i:Expr} {pos:Pos} (h1:nV x lv.ev):Snd x ρ (aR5 lv o i) (eval (.Subscript o i pos) x.env) jE:=by
 have flat:aGr i=true→Snd x ρ (bnd (lv.ev o) fun a=>opt (cS a) fun y=>bnd (lv.ev i) fun b=>aQf y b) (eval (.Subscript o i pos) x.env) jE:=fun hi=>by
  refine .re (arm_eval_Subscript ..) (Snd.bnd (h1 _ _) fun ρ₁ a v ex d=>.opt fun y hs=> ?_)
  refine aH (bK hs d) fun t e hl=> ?_
  subst e
  exact Snd.bnd (h1 _ _).holding fun ρ₂ b u ex2 d2=>Snd.standAt (aN4 hi d2)
 cases i with
 |Slice lo hi st p=>
  cases st with
  |some _=>exact .bad
  |none=>
   refine .re (arm_eval_Subscript ..) (Snd.bnd (h1 _ _) fun ρ₁ a v ex d=>.opt fun y hs=> ?_)
   refine aH (bK hs d) fun t e hl=> ?_
   subst e
   intro st td b st' td' obs e ho
   refine aF fun gq hgq=> ?_
   refine aH8 (eT e) fun l st₁ td₁ o₁ o₂ e1 e2 q7_=> ?_
   refine aH8 (eT e2) fun u st₂ td₂ o₃ o₄ e3 e4 q8_=> ?_
   subst hgq
   subst q7_
   subst q8_
   exact aKs (aHg hl (fun ρ=>aG5 h1 lo ρ _ _ _ _ _ _ e1 fun p hp=>ho p (List.mem_append_left _ hp)) (fun ρ=>aG5 h1 hi ρ _ _ _ _ _ _ e3 fun p hp=>ho p (List.mem_append_right _ (List.mem_append_left _ hp)))) e4 fun p hp=>ho p (List.mem_append_right _ (List.mem_append_right _ hp))
 |Constant=>exact flat rfl
 |Name=>exact flat rfl
 |_=>exact .bad
theorem aPi {lv:Lv} {op:UnaryOp} {y:Expr} {pos:Pos} (h1:nV x lv.ev):Snd x ρ (aRp lv op y) (eval (.UnaryOp op y pos) x.env) jE:=by
 cases op with
 |Not=>
  refine .re (arm_eval_UnaryOp ..) (Snd.bnd (h1 _ _) fun ρ₁ a v ex d=>Snd.standAt (Snd.holding (Snd.holding ?_)))
  show Snd x ρ₁ _ (truthy v>>=fun b=>pure (Value.bool (!b))) _
  exact Snd.bnd (xF d) fun ρ₂ b r ex2 e=>.rtn (by subst e;rfl)
 |USub=>
  refine .opt fun i zz=>.re (arm_eval_UnaryOp ..) (.rtn' fun st=> ?_)
  obtain⟨i,k,p,rfl⟩:=i
  refine Tri.bind (iT rfl) fun ρ₁ v ex d=>Tri.standAt (Tri.holding ?_)
  obtain⟨tk,rfl⟩:=d
  exact bA fun s Q E k=>PyProof.Rows.neg_int (k _ _ ⟨_,rfl⟩)
 |_=>exact .bad
theorem tZ {op:CmpOp} {r:Expr} {env:Env} (h:(!behindInMarks op r)=true):markedEach [op] [r] (evalEach [r] env)=[eval r env]:=by
 show [markedBehindIn op r (eval r env)]=_
 unfold markedBehindIn
 rw [show behindInMarks op r=false from Bool.not_eq_true' _▸h]
theorem aPm {lv:Lv} (ht:TabOk K t) (hx:x.Ok K n sc) (h1:nV x lv.ev) (h2:aMe x lv.tr) (e:Expr):Snd x ρ (evF K t n sc lv e) (eval e x.env) jE:=by
 cases e with
 |Constant c k p=>exact .opt fun a q=>.rtn' fun st=>iT q
 |Name y p=>exact kQ ht hx
 |Attribute o name pos=>
  refine .grd fun hp=>.re (arm_eval_Attribute ..) (Snd.bnd (oH hp (h1 _ _)) fun ρ₁ a v ex d=>Snd.standAt ?_)
  intro st td b st' td' obs e ho
  exact(aBb (expr:=true) ht hx.toRun d _ _ _ _ _ _ e ho).holding.bind fun ρ₂ r ex2 dr=>Tri.letTemp (Tri.pure dr)
 |Call f args kws pos=>exact aEe ht hx h1
 |BinOp l op r pos=>exact .re (arm_eval_BinOp ..) (Snd.bnd (h1 _ _) fun ρ₁ a v ex d=>Snd.bnd (h1 _ _).holding fun ρ₂ b u ex2 d2=>Snd.standAt (Snd.operate (aN5 (ex2.den d) d2)))
 |List elts pos=>exact .grd fun q=>.re (arm_eval_List ..) (Snd.standAt (Snd.bnd (sE h1 elts q ρ) fun ρ₁ as vs ex d=>aI6 d))
 |Tuple elts k pos=>exact .grd fun q=>.re (arm_eval_Tuple ..) (Snd.standAt (Snd.bnd (sE h1 elts q ρ) fun ρ₁ as vs ex d=>aI5 d))
 |Subscript o i pos=>exact aN3 h1
 |UnaryOp op y pos=>exact aPi h1
 |Compare l ops rs pos=>
  refine .opt fun y q=>.grd fun hb=> ?_
  obtain⟨rfl,rfl⟩:=aGh q
  refine .re (arm_eval_Compare ..) (Snd.bnd (h1 _ _) fun ρ₁ a v ex d=> ?_)
  rw [tZ hb]
  exact Snd.bnd (g:=fun rv=>do standAt pos;operate [v,rv] (compareOp y.1 v rv)) (h1 _ _).holding fun ρ₂ b u ex2 d2=>Snd.standAt (Snd.operate (Snd.map (aG7 (ex2.den d) d2) fun zz c r e=>e))
 |IfExp c a b pos=>
  refine .re (arm_eval_IfExp ..) (Snd.bnd (h2 _ _) fun ρ₁ b r ex e=> ?_)
  subst e
  cases r with
  |true=>exact h1 _ _
  |false=>exact h1 _ _
 |_=>exact .bad
theorem aK6 {tr:Expr→Way Bool} (h:aMe x tr) {op:BoolOp}:∀(l:List Expr) (ρ:List OA),Snd x ρ (trs tr op l) (allTrue op l x.env) fun zz b r=>r=b
 |[],ρ=>.rtn rfl
 |e::r,ρ=>by
  rw [arm_allTrue_cons]
  unfold trs
  refine Snd.bnd (h ρ e) fun ρ₁ b c ex q=> ?_
  subst q
  cases op<;>cases c<;>first|exact .rtn rfl|exact aK6 h r ρ₁
theorem aHj {env:Env} {p q y:Str} {k k' i:Nat} {p1 p2 tp pos:Pos} {tk:Tok} {st:AS}:
  Tri x ρ st (testChain pos (.str y tk) [.In] (markedEach [.In] [.Tuple [.Constant (.str p) k p1,.Constant (.str q) k' p2] i tp] (evalEach [.Tuple [.Constant (.str p) k p1,.Constant (.str q) k' p2] i tp] env))) st fun zz r=>r=(sEq p y||sEq q y):=by
 intro s Q E R kk
 show wpAny _ _ (do let rv←holding [.str y tk] (eval (.Tuple [.Constant (.str p) k p1,.Constant (.str q) k' p2] i tp) env);standAt pos;let c←operate [.str y tk,rv] (compareOp .In (.str y tk) rv);holding [c] (truthy c)) Q E s
 refine wpAny_bind (wpAny_holding ?_)
 rw [arm_eval_Tuple]
 refine wpAny_bind (wpAny_standAt (wpAny_bind ?_))
 show wpAny _ _ (spliced [(false,eval (.Constant (.str p) k p1) env),(false,eval (.Constant (.str q) k' p2) env)]) _ _ _
 refine spliced_cons (wpAny_Constant_str (spliced_cons (wpAny_Constant_str (wpAny_pure ?_))))
 refine wpAny_newTuple ?_ (by rw [sizeLine_eq];show 2≤_;decide)
 refine wpAny_bind (wpAny_standAt (wpAny_bind (wpAny_operate' (to1 (in_tuple_strs (items:= #[.str p s.toks,.str q (s.toks+1)]) (ys:=[p,q]) ?_ ?_ ?_)))))
 ·exact⟨_,Heap.get?_push_size _ rfl,rfl,_,rfl⟩
 ·exact .cons _ _ (.cons _ _ .nil)
 ·refine wpAny_holding (wpAny_truthy_bool ?_)
  have hk:∀b o,s.heap.get? b=some o→(s.heap.push {cls:=.type "tuple",data:=.seq #[.str p s.toks,.str q (s.toks+1)]}).get? b=some o:=fun b o e=>Heap.get?_push_of_some _ e
  refine kk _ _ ρ ((R.grow hk).toks (Nat.succ_pos _)) ((Next.grow hk).toks _) ?_
  simp [jU]
theorem aDm {op:CmpOp} {r:Expr} {p q y:Str} {env:Env} {pos:Pos} {tk:Tok} {st:AS} (h:∃k p1 k' p2 i tp,op= .In∧r= .Tuple [.Constant (.str p) k p1,.Constant (.str q) k' p2] i tp):
  Tri x ρ st (testChain pos (.str y tk) [op] (markedEach [op] [r] (evalEach [r] env))) st fun zz r=>r=(sEq p y||sEq q y):=by
 obtain⟨k,p1,k',p2,i,tp,rfl,rfl⟩:=h
 exact aHj
theorem aKq {lv:Lv} (h1:nV x lv.ev) {e:Expr} (he:isTrue e x.env (eval e x.env)=(do let v←eval e x.env;standAt e.pos;holding [v] (truthy v))):Snd x ρ (bnd (lv.ev e) kM) (isTrue e x.env (eval e x.env)) fun zz b r=>r=b:=by
 rw [he]
 exact Snd.bnd (h1 _ _) fun ρ₁ a v ex d=>Snd.standAt (Snd.holding (xF d))
theorem aPj {lv:Lv} (ht:TabOk K t) (hx:x.Ok K n sc) (h1:nV x lv.ev) (h2:aMe x lv.tr) (e:Expr):Snd x ρ (trF lv e) (isTrue e x.env (eval e x.env)) fun zz b r=>r=b:=by
 cases e with
 |UnaryOp op y pos=>
  cases op with
  |Not=>
   rw [arm_isTrue_UnaryOp]
   exact Snd.bnd (h2 _ _) fun ρ₁ b r ex q=>.rtn (by subst q;rfl)
  |_=>exact .bad
 |BoolOp op vs pos=>
  rw [arm_isTrue_BoolOp]
  exact aK6 h2 _ _
 |IfExp=>exact .bad
 |Compare l ops rs pos=>
  refine .opt fun y q=> ?_
  obtain⟨rfl,rfl⟩:=aGh q
  refine .re (arm_isTrue_Compare ..) (.els (fun z zz=>Snd.bnd (h1 _ _) fun ρ₁ a v ex d=>.opt fun s hs=>.rtn' fun st=> ?_) (.grd fun hb=>Snd.bnd (h1 _ _) fun ρ₁ a v ex d=> ?_))
  ·cases sH hs
   obtain⟨tk,rfl⟩:=d.1
   exact aDm z.2
  ·rw [tZ hb]
   show Snd x ρ₁ _ (do let rv←holding [v] (eval y.2 x.env);standAt pos;let c←operate [v,rv] (compareOp y.1 v rv);holding [c] (truthy c)) _
   refine Snd.bnd (h1 _ _).holding fun ρ₂ b u ex2 d2=>Snd.standAt ?_
   intro st td c st' td' obs e ho
   refine Tri.bind (Snd.operate (aG7 (ex2.den d) d2) _ _ _ _ _ _ e ho) fun ρ₃ r ex3 hr=>Tri.holding ?_
   have:r= .bool c:=hr
   subst this
   exact bA fun s Q E k=>wpAny_truthy_bool (k _ s.toks rfl)
 |Name|Attribute|Call|Subscript|Constant=>exact aKq h1 rfl
 |_=>exact .bad
theorem jJ (ht:TabOk K t) (hx:x.Ok K n sc):∀m,nV x (lv K t n sc m).ev∧aMe x (lv K t n sc m).tr
 |0=>⟨fun zz zz=>.bad,fun zz zz=>.bad⟩
 |m+1=>⟨fun ρ e=>Snd.orElse (aPm ht hx (jJ ht hx m).1 (jJ ht hx m).2 e) (aKr hx),fun ρ e=>Snd.orElse (aPj ht hx (jJ ht hx m).1 (jJ ht hx m).2 e) (aKm hx)⟩
end
end Mine
end
section
namespace Mine
section
variable (K:Params→Frag) (t:Tab) (n:Nat) (sc:Scope)
noncomputable def dY:Expr→Bool
 | .ListComp ..| .SetComp ..| .DictComp ..=>true
 |_=>false
noncomputable def aM2 (y:Str) (a:AV):Way Unit:=opt (aCe (cP y sc.names)) fun zz=>bnd getSt fun st=>setSt {st with loc:=put y a st.loc}
noncomputable def aEa (o:AV) (name:Str) (b:AV):Way Unit:=opt (aGi o) fun k=>bnd getSt fun st=>opt (zT st.objs[k]?) fun y=>opt (lB y.1 t.flds) fun l=>
 grd (aIt name l&&Nat.ble y.2.length 900) (setSt {st with objs:=st.objs.set k (.inst y.1 (put name b y.2))})
noncomputable def exB (ex:Stmt→Way AFlow):List Stmt→Way AFlow
 |[]=>rtn .next
 |s::r=>bnd (ex s) fun f=>match f with
  | .next=>exB ex r
  |f=>rtn f
noncomputable def aRz (v:Lv) (e y:Expr):Way AFlow:=match y with
 | .Name y _=>bnd (v.ev e) fun a=>bnd (aM2 sc y a) fun zz=>rtn .next
 | .Attribute o name _=>bnd (v.ev e) fun b=>bnd (bnd (v.ev o) fun a=>bnd (aEa t a name b) fun zz=>rtn ()) fun zz=>rtn .next
 |_=>bad
noncomputable def one {α:Type} (l:List α):Option α:=match l with|[]=>none|a::r=>match r with|[]=>some a|_::_=>none
theorem aPu {α:Type} {l:List α} {a:α} (h:one l=some a):l=[a]:=by
 cases l with
 |nil=>exact bL h
 |cons b r=>cases r with
  |nil=>cases h;rfl
  |cons _ _=>exact bL h
noncomputable def aQh (v:Lv) (y e:Expr):Way AFlow:=match y with
 | .Name y _=>bnd (tU t sc y) fun a=>bnd (v.ev e) fun b=>bnd (aJt a b) fun c=>bnd (aM2 sc y c) fun zz=>rtn .next
 | .Attribute o name _=>bnd (v.ev o) fun a=>bnd (bnd (aM8 K t n a name) fun b=>bnd (v.ev e) fun c=>aJt b c) fun r=>bnd (aEa t a name r) fun zz=>rtn .next
 |_=>bad
noncomputable def aRl (op:Operator):Bool:=match op with| .Add=>true|_=>false
noncomputable def exF (v:Lv) (ex:Stmt→Way AFlow) (s:Stmt):Way AFlow:=match s with
 | .Expr e _=>grd (!dY e) (bnd (v.ev e) fun zz=>rtn .next)
 | .Pass _=>rtn .next
 | .Break _=>rtn .brk
 | .Continue _=>rtn .cont
 | .Return e _=>match e with
  |none=>rtn (.ret .none)
  |some e=>bnd (v.ev e) fun a=>rtn (.ret a)
 | .Assign ts e _=>opt (one ts) fun y=>grd (!dY e) (aRz t sc v e y)
 | .AugAssign y op e _=>grd (aRl op) (aQh K t n sc v y e)
 | .If test body orelse _=>bnd (v.tr test) fun b=>match b with
  |true=>exB ex body
  |false=>exB ex orelse
 |_=>bad
noncomputable def sv (m:Nat):Nat→Stmt→Way AFlow
 |0=>fun zz=>bad
 |k+1=>fun s=>orElse (exF K t n sc (lv K t n sc m) (sv m k) s) (aOf K n sc s)
end
section
variable {K:Params→Frag} {t:Tab} {n:Nat} {sc:Scope} {x:Cx} {ρ:List OA} {a b:AV} {u v:Value} {name:Str}
theorem aBa {y:Str} (hx:x.Ok K n sc) (d:den ρ a v):Snd x ρ (aM2 sc y a) (bindName x.env y v) fun zz zz zz=>True:=
 .opt fun zz hk=>.getSt fun st=>.setSt (cI hx (by rw [aN];exact uK hk) d)
theorem xG (ht:TabOk K t) (hx:x.Run K n) (d:den ρ a v) (db:den ρ b u):Snd x ρ (aEa t a name b) (setAttr v name u) fun zz zz zz=>True:=by
 refine .opt fun k hk=> ?_
 cases tO hk
 refine .getSt fun st=>.opt fun y q=>.opt fun l q3=>.grd fun q4=>.setSt ?_
 rw [Bool.and_eq_true]at q4
 exact aHf hx (lT q) (Nat.le_of_ble_eq_true q4.2) (ht.fld _ _ _ q3 q4.1 x.w.params).2 d db
theorem aAp {vs ks:List Value} {st:AS}:Tri x ρ st (release vs ks) st fun zz zz=>True:=fun s Q E R k=>wpAny_release (k () s ρ R (.refl ..) trivial)
noncomputable abbrev aQk (x:Cx) (ex:Stmt→Way AFlow):Prop:=∀ρ s,Snd x ρ (ex s) (exec s x.env) yP
theorem sD {ex:Stmt→Way AFlow} (h:aQk x ex):∀(l:List Stmt) (ρ:List OA),Snd x ρ (exB ex l) (execs l x.env) yP
 |[],ρ=>by rw [arm_execs_nil];exact .rtn rfl
 |s::r,ρ=>by
  rw [arm_execs_cons]
  unfold exB
  refine Snd.bnd (h ρ s) fun ρ₁ f g ex q=> ?_
  cases f with
  |next=>have:g= .next:=q;subst this;exact sD h r ρ₁
  |brk=>have:g= .brk:=q;subst this;exact .rtn q
  |cont=>have:g= .cont:=q;subst this;exact .rtn q
  |ret a=>obtain⟨u,rfl,q⟩:=q;exact .rtn ⟨u,rfl,q⟩
theorem gT {e:Expr} {o:Option Expr} {l:Nat} {env:Env} (h:dY e=false):swapsWith e o l env=pure false:=by
 cases e<;>first|rfl|exact aOx h
theorem pR {y:Expr} {e:Expr} {env:Env} (h:∀a b c,y≠ .Tuple a b c) (h2:∀a b,y≠ .List a b):swappedStores [y] e env=pure none:=by
 cases y<;>first|rfl|exact absurd rfl (h _ _ _)|exact absurd rfl (h2 _ _)
theorem yN {e y:Expr} {pos:Pos} {env:Env} (h:(!dY e)=true) (hs:swappedStores [y] e env=pure none) (ha:(assignEach [y] env).map (·.2)=[assign y env]):exec (.Assign [y] e pos) env=(do standAt pos;let v←eval e env;assignAll v [assign y env];pure .next):=by
 rw [arm_exec_Assign]
 show(standAt pos>>=fun zz=>swapsWith e (some y) pos.line env>>=_)=_
 rw [gT (Bool.not_eq_true' _▸h),hs,ha]
 exact rfl
theorem aN7 {lv:Lv} {e y:Expr} {pos:Pos} (ht:TabOk K t) (hx:x.Ok K n sc) (h1:nV x lv.ev) (h:(!dY e)=true):Snd x ρ (aRz t sc lv e y) (exec (.Assign [y] e pos) x.env) yP:=by
 cases y with
 |Name y yp=>
  refine .re (yN h rfl rfl) (Snd.standAt (Snd.bnd (h1 _ _) fun ρ₁ a v ex d=> ?_))
  show Snd x ρ₁ _ ((do assign (.Name y yp) x.env v)>>=fun zz=>pure Flow.next) _
  rw [arm_assign_Name]
  exact Snd.bnd (Snd.standAt (aBa hx d)) fun zz zz zz zz zz=>.rtn rfl
 |Attribute o name ap=>
  refine .re (yN h rfl rfl) (Snd.standAt (Snd.bnd (h1 _ _) fun ρ₁ b u ex d=> ?_))
  show Snd x ρ₁ _ ((do assign (.Attribute o name ap) x.env u)>>=fun zz=>pure Flow.next) _
  rw [arm_assign_Attribute]
  exact Snd.bnd (Snd.bnd (h1 ρ₁ o).holding fun ρ₂ a v ex2 dv=>Snd.standAt (Snd.bnd (xG ht hx.toRun dv (ex2.den d)).holding fun zz zz zz zz zz=>.rtn' (R:=fun zz zz zz=>True) fun st=>aAp)) fun zz zz zz zz zz=>.rtn rfl
 |_=>exact .bad
theorem aN6 {lv:Lv} {e y:Expr} {pos:Pos} (ht:TabOk K t) (hx:x.Ok K n sc) (h1:nV x lv.ev):Snd x ρ (aQh K t n sc lv y e) (exec (.AugAssign y .Add e pos) x.env) yP:=by
 cases y with
 |Name y np=>
  cases hd:sEq y "__debug__"with
  |true=>
   have:aQh K t n sc lv (.Name y np) e=bad:=by
    show bnd (tU t sc y) _=_
    unfold tU
    rw [hd]
    rfl
   rw [this]
   exact .bad
  |false=>
   have hd':(y==("__debug__":Str))=false:=by rw [jU];exact hd
   have he:exec (.AugAssign (.Name y np) .Add e pos) x.env=(eval (.Name y np) x.env>>=fun old=>do
     let v←holding [old] (eval e x.env)
     standAt pos
     let new←operate [old,v] (inplaceOp .Add old v)
     standAt np
     bindName x.env y new
     pure .next):=by
    rw [arm_exec_AugAssign,arm_eval_Name,hd']
    show Sem.bind _ _=Sem.bind (Sem.bind _ _) _
    rw [Sem.bind_assoc]
    rfl
   exact .re he (Snd.bnd (kQ ht hx) fun ρ₁ a v ex d=>Snd.bnd (h1 _ _).holding fun ρ₂ b u ex2 d2=>Snd.standAt (Snd.bnd (Snd.operate (aB8 (ex2.den d) d2)) fun ρ₃ c r ex3 d3=>Snd.standAt (Snd.bnd (aBa hx d3) fun zz zz zz zz zz=>.rtn rfl)))
 |Attribute o name ap=>
  exact .re (arm_exec_AugAssign_2 ..) (Snd.standAt (Snd.bnd (h1 _ _) fun ρ₁ a v ex d=>Snd.bnd (Snd.holding (Snd.standAt (Snd.bnd (aBb ht hx.toRun d) fun ρ₂ b u ex2 du=>Snd.bnd (h1 _ _).holding fun ρ₃ c z ex3 dz=>Snd.standAt (Snd.operate (aB8 (ex3.den du) dz))))) fun ρ₄ r new ex4 dn=>Snd.standAt (Snd.bnd (xG ht hx.toRun (ex4.den d) dn).holding fun zz zz zz zz zz=>Snd.release (.rtn rfl))))
 |_=>exact .bad
theorem aPl {lv:Lv} {ex:Stmt→Way AFlow} (ht:TabOk K t) (hx:x.Ok K n sc) (h1:nV x lv.ev) (h2:aMe x lv.tr) (h3:aQk x ex) (s:Stmt):Snd x ρ (exF K t n sc lv ex s) (exec s x.env) yP:=by
 cases s with
 |Expr e pos=>
  refine .grd fun q=>.re (arm_exec_Expr ..) (Snd.standAt ?_)
  have hi:interactive x.env=false:=by unfold interactive;rw [hx.scope,hx.kind];rfl
  rw [hi,gT (Bool.not_eq_true' _▸q)]
  exact Snd.bnd (g:=fun v=>dropValue e pos v) (h1 _ _) fun ρ₁ a v ex d=>.rtn' fun st=>bA fun s Q E k=>wpAny_dropValue (k _ s.toks rfl)
 |Pass=>exact .re (arm_exec_Pass ..) (Snd.standAt (.rtn rfl))
 |Break=>exact .re (arm_exec_Break ..) (Snd.standAt (.rtn rfl))
 |Continue=>exact .re (arm_exec_Continue ..) (Snd.standAt (.rtn rfl))
 |Return v pos=>
  refine .re (arm_exec_Return ..) (Snd.standAt ?_)
  cases v with
  |none=>exact .rtn ⟨_,rfl,rfl⟩
  |some e=>exact Snd.bnd (h1 _ _) fun ρ₁ a v ex d=>.rtn ⟨_,rfl,d⟩
 |Assign ts e pos=>
  refine .opt fun y q=>.grd fun q2=> ?_
  cases aPu q
  exact aN7 ht hx h1 q2
 |AugAssign a op e pos=>
  cases op with
  |Add=>exact aN6 ht hx h1
  |_=>exact .bad
 |If test body orelse pos=>
  refine .re (arm_exec_If ..) (Snd.standAt (Snd.bnd (h2 _ _) fun ρ₁ b r ex e=> ?_))
  subst e
  cases r with
  |true=>exact sD h3 _ _
  |false=>exact sD h3 _ _
 |_=>exact .bad
theorem aKn {m:Nat} (ht:TabOk K t) (hx:x.Ok K n sc):∀k,aQk x (sv K t n sc m k)
 |0=>fun zz zz=>.bad
 |k+1=>fun ρ s=>Snd.orElse (aPl ht hx (jJ ht hx m).1 (jJ ht hx m).2 (aKn ht hx k) s) (aKo hx)
theorem aB {m k:Nat} (ht:TabOk K t) {l:List Stmt} {st st':AS} {td:List Td} {f:AFlow} {obs:List Prop} (e:exB (sv K t n sc m k) l st td=some (f,st',[],obs)) (ho:∀p∈obs,p):DoesB K n sc l st f st':=
 fun x hx ρ=>sD (aKn ht hx k) l ρ _ _ _ _ _ _ e ho
end
end Mine
end
section
namespace Mine
noncomputable def fdO (o:Option Obj):Option FuncData:=match o with
 |none=>none
 |some o=>match o.data with
  | .func fd=>some fd
  |_=>none
theorem aQ9 {o:Option Obj} {fd:FuncData} (h:fdO o=some fd):∃a b c,o=some ⟨a,b,.func fd,c⟩:=by
 cases o with
 |none=>exact bL h
 |some o=>
  obtain⟨a,b,d,c⟩:=o
  cases d with
  |func g=>cases h;exact⟨a,b,c,rfl⟩
  |_=>exact bL h
noncomputable def gH (K:Frag) (f:Addr):FuncData:=match fdO (K.lookup f)with
 |some fd=>fd
 |none=>default
noncomputable def fnB (K:Frag) (f:Addr):Bool:=match fdO (K.lookup f)with
 |some fd=>codeIn K fd.code fd.qualname&&Nat.beq fd.globals mainGlobals&&Nat.beq fd.builtins builtinsNs
 |none=>false
noncomputable def aRk (k:ScopeKind):Bool:=match k with| .function=>true|_=>false
noncomputable def aNi (k:NameKind):Bool:=match k with| .cell=>false|_=>true
noncomputable def aG8 (sc:Scope):Bool:= !sc.isCoroutine&& !sc.isGenerator&&aRk sc.kind&&sc.names.all fun x=>aNi x.2
structure FnIs (K:Params→Frag) (f:Addr) (s:Stmt):Prop where
 ok:∀P,fnB (K P) f=true
 body:∀P,(gH (K P) f).body= .stmts (aO s)
 scope:∀P,(gH (K P) f).scope=bC s
 plain:aG8 (bC s)=true
theorem FnIs.fn {K:Params→Frag} {f:Addr} {s:Stmt} (h:FnIs K f s):Fn K f (bC s) (aO s) (fun P=>gH (K P) f):=by
 have key:∀P,∃a b c,(K P).lookup f=some ⟨a,b,.func (gH (K P) f),c⟩∧codeIn (K P) (gH (K P) f).code (gH (K P) f).qualname=true∧(Nat.beq (gH (K P) f).globals mainGlobals)=true∧(Nat.beq (gH (K P) f).builtins builtinsNs)=true:=fun P=>by
  have h1:=h.ok P
  cases q:fdO ((K P).lookup f)with
  |none=>unfold fnB at h1;rw [q]at h1;exact mV h1
  |some fd=>
   have e:gH (K P) f=fd:=by unfold gH;rw [q]
   unfold fnB at h1
   rw [q]at h1
   rw [e]
   obtain⟨a,b,c,z⟩:=aQ9 q
   exact⟨a,b,c,z,aJs h1⟩
 have pl:=aO7 h.plain
 refine⟨fun P=> ?_,fun P=> ?_,h.body,h.scope,fun P=> ?_,fun P=> ?_, ?_⟩
 ·obtain⟨a,b,c,e1,e2⟩:=key P;simp only [e1];rfl
 ·obtain⟨a,b,c,e1,e2⟩:=key P;exact e2.1
 ·obtain⟨a,b,c,e1,e2⟩:=key P;exact Nat.eq_of_beq_eq_true e2.2.1
 ·obtain⟨a,b,c,e1,e2⟩:=key P;exact Nat.eq_of_beq_eq_true e2.2.2
 ·refine⟨Bool.not_eq_true' _▸pl.1,Bool.not_eq_true' _▸pl.2.1, ?_,fun x hx e=> ?_⟩
  ·have:=pl.2.2.1
   cases q:(bC s).kind<;>first|rfl|(rw [q]at this;exact mV this)
  ·have:=List.all_eq_true.mp pl.2.2.2 x hx
   rw [e]at this
   exact mV this
noncomputable def Binds (K:Params→Frag) (f:Addr) (vs:List Value) (kvs binds:List (Str×Value)):Prop:=∀P S,peek (K P) S (bindArgs (gH (K P) f) ⟨vs,kvs⟩)=some binds
theorem Binds.to {K:Params→Frag} {f:Addr} {vs:List Value} {kvs binds:List (Str×Value)} (h:Binds K f vs kvs binds) (P:Params) (s:Shared) (X:(K P).In s.heap):BindsTo s (gH (K P) f) ⟨vs,kvs⟩ binds:=kp_binds X (h P)
noncomputable def aSs (sc:Scope) (loc:List (Str×AV)):Bool:=loc.all fun y=>match cP y.1 sc.names with|some .local=>true|_=>false
theorem bI {sc:Scope} {loc:List (Str×AV)} (h:aSs sc loc=true):(loc.all fun y=>decide (sc.names.lookup y.1=some .local))=true:=by
 rw [List.all_eq_true]
 intro y hy
 have:=List.all_eq_true.mp h y hy
 rw [decide_eq_true_eq,aN]
 split at this
 ·assumption
 ·cases this
noncomputable def aLm (K:Frag) (y:Str) (v:Value):Bool:=match nsIn K mainGlobals y with
 |some (some u)=>u==v
 |some none=>bootBuiltins y==some v&& !sEq y "__name__"
 |none=>false
theorem kZ {K:Frag} {y:Str} {v:Value} (h:aLm K y v=true):iO K y v:=by
 unfold aLm at h
 split at h
 ·rename_i u e;rw [beq_iff_eq]at h;subst h;exact .inl e
 ·rename_i e
  simp only [Bool.and_eq_true,beq_iff_eq,Bool.not_eq_true',sEq_ne]at h
  exact .inr ⟨e,h.1,h.2⟩
 ·cases h
noncomputable def aSr (K:Frag) (C:Addr) (y:Str) (f:Addr):Bool:=plainGet K C y&&findIn K (.ref C) y==some (some (.ref f))&&typeIn K (.ref f)==some (.type "function")&&iN K (.ref f)
noncomputable def aL1 (o:Option (Option Value)):Option Addr:=match o with
 |none=>none
 |some o=>match o with
  |none=>none
  |some v=>match v with
   | .ref p=>some p
   |_=>none
theorem aL0 {o:Option (Option Value)} {p:Addr} (h:aL1 o=some p):o=some (some (.ref p)):=by
 cases o with
 |none=>exact bL h
 |some o=>cases o with
  |none=>exact bL h
  |some v=>cases v with
   |ref q=>exact congrArg (fun q=>some (some (Value.ref q))) (Option.some.inj h)
   |_=>exact bL h
noncomputable def zU (o:Option (List Value)):Option Addr:=match o with
 |none=>none
 |some l=>match l with
  |[]=>none
  |v::_=>match v with
   | .ref p=>some p
   |_=>none
theorem aF1 {o:Option (List Value)} {p:Addr} (h:zU o=some p):∃r,o=some (.ref p::r):=by
 cases o with
 |none=>exact bL h
 |some l=>cases l with
  |nil=>exact bL h
  |cons v r=>cases v with
   |ref q=>exact⟨r,congrArg (fun q=>some (Value.ref q::r)) (Option.some.inj h)⟩
   |_=>exact bL h
noncomputable def aSo (K:Frag) (C:Addr) (y:Str) (f:Addr):Bool:=plainGet K C y&&hasDictIn K C&&(match aL1 (findIn K (.ref C) y)with
 |some p=>specialIn K (.ref p) "__get__"==some (some (.builtin "property.__get__"))&&takesIn K (.ref p)==some true&&(match zU (recIn K p "property")with
  |some g=>Nat.beq g f
  |none=>false)
 |none=>false)
noncomputable def aSa (K:Frag) (t:Tab):Bool:=
 t.glbs.all (fun e=>aLm K e.1 e.2&&iN K e.2)&&
 t.flds.all (fun e=>e.2.all fun y=>sI K e.1 y&&oF K e.1 y)&&
 t.mets.all (fun e=>e.2.all fun y=>aSr K e.1 y.1 y.2)&&
 t.prps.all (fun e=>e.2.all fun y=>aSo K e.1 y.1 y.2)
theorem fE {α:Type} {y:Str} {v:α}:∀{l:List (Str×α)},cP y l=some v→(y,v)∈l
 |[],h=>by cases h
 |(z,u)::r,h=>by
  unfold cP at h
  split at h
  ·rename_i q;cases h;rw [sEq_iff]at q;subst q;exact .head _
  ·exact .tail _ (fE h)
theorem lU {α:Type} {y:Nat} {v:α}:∀{l:List (Nat×α)},lB y l=some v→(y,v)∈l
 |[],h=>by cases h
 |(z,u)::r,h=>by
  unfold lB at h
  split at h
  ·rename_i q;cases h;have:=Nat.eq_of_beq_eq_true q;subst this;exact .head _
  ·exact .tail _ (lU h)
theorem aC1 {y:Str}:∀{l:List Str},aIt y l=true→y∈l
 |[],h=>by cases h
 |z::r,h=>by
  unfold aIt at h
  split at h
  ·rename_i q;rw [sEq_iff]at q;subst q;exact .head _
  ·exact .tail _ (aC1 h)
theorem TabOk.of {K:Params→Frag} {t:Tab} (h:∀P,aSa (K P) t=true) (hs:∀e∈t.mStr,hM "str" e.1 e.2) (hd:∀e∈t.mDeq,hM "collections.deque" e.1 e.2) (hl:∀e∈t.mLst,hM "list" e.1 e.2):TabOk K t:=by
 have H:=fun P=>aO7 (h P)
 have al:∀{α:Type} {l:List α} {p:α→Bool} {a:α},l.all p=true→a∈l→p a=true:=fun h hm=>List.all_eq_true.mp h _ hm
 refine⟨fun y v e P=> ?_,fun C l y e1 e2 P=> ?_,fun C l y f e1 e2 P=> ?_,fun C l y f e1 e2 P=> ?_,fun y id e=>hs _ (fE e),fun y id e=>hd _ (fE e),fun y id e=>hl _ (fE e)⟩
 ·have w:=al (H P).1 (fE e);have:=gJ w;exact⟨kZ this.1,this.2⟩
 ·have w:=al (H P).2.1 (lU e1)
  have w:=al w (aC1 e2)
  exact gJ w
 ·have w:=al (H P).2.2.1 (lU e1)
  have w:=al w (fE e2)
  have:=aO7 w
  exact⟨this.1,beq_iff_eq.mp this.2.1,beq_iff_eq.mp this.2.2.1,this.2.2.2⟩
 ·have w:=al (H P).2.2.2 (lU e1)
  have w:=al w (fE e2)
  have:=aJs w
  refine⟨this.1,this.2.1, ?_⟩
  have h5:=this.2.2
  cases q:aL1 (findIn (K P) (.ref C) y)with
  |none=>dsimp only at h5;rw [q]at h5;exact mV h5
  |some p=>
   dsimp only at h5
   rw [q]at h5
   have h6:=aJs h5
   cases q2:zU (recIn (K P) p "property")with
   |none=>have:=h6.2.2;rw [q2]at this;exact mV this
   |some g=>
    have h7:=h6.2.2
    rw [q2]at h7
    cases Nat.eq_of_beq_eq_true h7
    obtain⟨r,q3⟩:=aF1 q2
    exact⟨p,r,aL0 q,beq_iff_eq.mp h6.1,beq_iff_eq.mp h6.2.1,q3⟩
noncomputable def mZ:Tab where
 flds:=[(732,["instream","infile","posix","eof","commenters","wordchars","whitespace","whitespace_split","quotes","escape","escapedquotes","state","pushback","lineno","debug","token","filestack","source","_punctuation_chars","_pushback_chars"]),
  (597,["_StringIO__newline","_StringIO__buf","_StringIO__pos"])]
 mets:=[(732,[("get_token",693),("read_token",700)]),(597,[("_StringIO__translated",374),("_StringIO__check",381),("read",543)])]
 prps:=[(732,[("punctuation_chars",663)])]
 glbs:=[("_index",.ref 63),("_wall",.ref 44),("StringIO",.ref 597),("shlex",.ref 732),("deque",.type "collections.deque"),("_find_unsafe",.ref 745),("quote",.ref 752),("separate",.ref 764),("split",.ref 744),
  ("_law_patterns",.ref 771),("_law_written",.ref 778),("_law_read",.ref 785),("_law_meant",.ref 792),("_law_tokens",.ref 799),
  ("type",.type "type"),("int",.type "int"),("bool",.type "bool"),("str",.type "str"),("list",.type "list"),("dict",.type "dict"),("len",.builtin "len"),("isinstance",.builtin "isinstance"),("chr",.builtin "chr"),("divmod",.builtin "divmod"),("StopIteration",.type "StopIteration")]
 mStr:=[("replace","str.replace"),("split","str.split"),("find","str.find"),("rfind","str.rfind"),("partition","str.partition"),("join","str.join"),("translate","str.translate")]
 mDeq:=[("append","collections.deque.append"),("pop","collections.deque.pop")]
 mLst:=[("append","list.append")]
 mRaw:=[]
end Mine
end
section
namespace Mine
section
variable {prog:Program} {w:World} {A:Around} {R:Result→Shared→Prop} {s:Shared}
theorem iJ {test:Expr} {body orelse:List Stmt} {env:Env}
  (h:wpAny (aP prog w) A (isTrue test env (eval test env)) (fun b s₂=>
    if b then wpAny (aP prog w) A (execs body env) (fun f s₃=>match f with
      | .next| .cont=>codeAny (aP prog w) A (.whileLoop test body orelse env) R s₃
      | .brk=>R (.ok .next) s₃
      | .ret v=>R (.ok (.ret v)) s₃) (notedBy (aP prog w) A env fun e s'=>R (.error e) s') s₂
    else wpAny (aP prog w) A (execs orelse env) (fun f s₃=>R (.ok f) s₃) (notedBy (aP prog w) A env fun e s'=>R (.error e) s') s₂)
    (notedBy (aP prog w) A env fun e s'=>R (.error e) s') s):codeAny (aP prog w) A (.whileLoop test body orelse env) R s:=by
 refine codeAny_of_tree ?_
 show wpAny _ A ((whileTurn test body orelse env).onRaise (fun x=>do noteFrame x env;theTreesLotGoes x)) _ _ s
 refine wpAny_noted ?_
 simp only [whileTurn]
 refine wpAny_bind (wpAny_mono h (fun b s₂ h₂=> ?_) fun zz zz h'=>h')
 cases b with
 |false=>
  simp only [Bool.false_eq_true,if_false]at h₂⊢
  exact wpAny_bind (wpAny_mono h₂ (fun f s₃ h₃=>wpAny_pure h₃) fun zz zz h'=>h')
 |true=>
  simp only [if_true]at h₂⊢
  refine wpAny_bind (wpAny_mono h₂ (fun f s₃ h₃=> ?_) fun zz zz h'=>h')
  cases f with
  |next=>exact wpAny_pure ⟨rfl,h₃⟩
  |cont=>exact wpAny_pure ⟨rfl,h₃⟩
  |brk=>exact wpAny_pure h₃
  |ret v=>exact wpAny_pure h₃
theorem yK {target:Expr} {it:Value} {body orelse:List Stmt} {env:Env}
  (h:wpAny (aP prog w) A (pyNext it) (fun r s₁=>match r with
    |none=>codeAny (aP prog w) A (.block orelse env) R s₁
    |some v=>wpAny (aP prog w) A (letOwnedTupleGo target it v) (fun zz s₂=>wpAny (aP prog w) A (assign target env v) (fun zz s₃=>wpAny (aP prog w) A (execs body env) (fun f s₄=>match f with
      | .next| .cont=>codeAny (aP prog w) A (.forLoop target it body orelse env) R s₄
      | .brk=>R (.ok .next) s₄
      | .ret v=>R (.ok (.ret v)) s₄) (notedBy (aP prog w) A env fun e s'=>R (.error e) s') s₃) (notedBy (aP prog w) A env fun e s'=>R (.error e) s') s₂) (notedBy (aP prog w) A env fun e s'=>R (.error e) s') s₁)
    (notedBy (aP prog w) A env fun e s'=>R (.error e) s') s):codeAny (aP prog w) A (.forLoop target it body orelse env) R s:=by
 refine codeAny_of_tree ?_
 show wpAny _ A ((forTurn target it body orelse env).onRaise (fun x=>do noteFrame x env;theTreesLotGoes x)) _ _ s
 refine wpAny_noted ?_
 simp only [forTurn]
 refine wpAny_bind (wpAny_standAt (wpAny_bind (wpAny_onRaise (wpAny_mono h (fun r s₁ h₁=> ?_) fun zz zz h'=>wpAny_standAt h'))))
 cases r with
 |none=>exact wpAny_pure ⟨rfl,h₁⟩
 |some v=>
  dsimp only at h₁⊢
  refine wpAny_bind (wpAny_mono h₁ (fun zz s₂ h₂=>wpAny_bind (wpAny_mono h₂ (fun zz s₃ h₃=>wpAny_bind (wpAny_mono h₃ (fun f s₄ h₄=> ?_) fun zz zz h'=>h')) fun zz zz h'=>h')) fun zz zz h'=>h')
  cases f with
  |next=>exact wpAny_pure ⟨rfl,h₄⟩
  |cont=>exact wpAny_pure ⟨rfl,h₄⟩
  |brk=>exact wpAny_pure h₄
  |ret v=>exact wpAny_pure h₄
theorem rN {body:List Stmt} {env:Env} (h:wpAny (aP prog w) A (execs body env) (fun f s₃=>R (.ok f) s₃) (notedBy (aP prog w) A env fun e s'=>R (.error e) s') s):codeAny (aP prog w) A (.block body env) R s:=by
 refine codeAny_of_tree ?_
 show wpAny _ A (do return Fin.done (←(execs body env).onRaise (fun x=>do noteFrame x env;theTreesLotGoes x))) _ _ s
 exact wpAny_bind (wpAny_noted (wpAny_mono h (fun f s₃ h₃=>wpAny_pure h₃) fun zz zz h'=>h'))
end
noncomputable def DoesW (K:Params→Frag) (n:Nat) (sc:Scope) (test:Expr) (body orelse:List Stmt) (st:AS) (f:AFlow) (st':AS):Prop:=∀x:Cx,x.Ok K n sc→∀ρ,∀(s:Shared) (Q:Flow→Shared→Prop) (E:Value→Shared→Prop),Rel x.hb x.L x.fr ρ st s→
  (∀a s' ρ',Rel x.hb x.L x.fr ρ' st' s'→Next x.L ρ s ρ' s'→fden ρ' f a→Q a s')→
  codeAny (mx x) x.A (.whileLoop test body orelse x.env) (fun r s'=>match r with| .ok f=>Q f s'| .error e=>E e s') s
section
variable {K:Params→Frag} {n:Nat} {sc:Scope} {st st₁ st₂ st₃:AS} {test:Expr} {body orelse:List Stmt} {f g:AFlow} {pos:Pos}
theorem lW (h:cW K n sc test st false st₁) (k:DoesB K n sc orelse st₁ f st₂):DoesW K n sc test body orelse st f st₂:=fun x hx ρ s Q E R kk=>by
 refine iJ (h x hx ρ s _ _ R fun b s₁ ρ₁ R₁ N₁ e=> ?_)
 subst e
 refine k x hx ρ₁ s₁ _ _ R₁ fun f s₂ ρ₂ R₂ N₂ e=>kk f s₂ ρ₂ R₂ (N₁.trans N₂) e
noncomputable def zV:AFlow→Bool
 | .next=>true
 | .cont=>true
 |_=>false
theorem nL (h:cW K n sc test st true st₁) (k:DoesB K n sc body st₁ g st₂) (hg:zV g=true) (r:DoesW K n sc test body orelse st₂ f st₃):DoesW K n sc test body orelse st f st₃:=fun x hx ρ s Q E R kk=>by
 refine iJ (h x hx ρ s _ _ R fun b s₁ ρ₁ R₁ N₁ e=> ?_)
 subst e
 refine k x hx ρ₁ s₁ _ _ R₁ fun f s₂ ρ₂ R₂ N₂ e=> ?_
 cases g with
 |next=>have:f= .next:=e;subst this;exact r x hx ρ₂ s₂ Q E R₂ fun f s₃ ρ₃ R₃ N₃ e=>kk f s₃ ρ₃ R₃ ((N₁.trans N₂).trans N₃) e
 |cont=>have:f= .cont:=e;subst this;exact r x hx ρ₂ s₂ Q E R₂ fun f s₃ ρ₃ R₃ N₃ e=>kk f s₃ ρ₃ R₃ ((N₁.trans N₂).trans N₃) e
 |brk=>cases hg
 |ret v=>cases hg
theorem aJf (h:cW K n sc test st true st₁) (k:DoesB K n sc body st₁ .brk st₂):DoesW K n sc test body orelse st .next st₂:=fun x hx ρ s Q E R kk=>by
 refine iJ (h x hx ρ s _ _ R fun b s₁ ρ₁ R₁ N₁ e=> ?_)
 subst e
 refine k x hx ρ₁ s₁ _ _ R₁ fun f s₂ ρ₂ R₂ N₂ e=> ?_
 have:f= .brk:=e
 subst this
 exact kk _ s₂ ρ₂ R₂ (N₁.trans N₂) rfl
theorem eI (h:DoesW K n sc test body orelse st f st₁):DoesS K n sc (.While test body orelse pos) st f st₁:=fun x hx ρ=>by
 rw [arm_exec_While]
 refine Tri.standAt fun s Q E R kk=>wpAny_runOwn ?_
 exact h x hx ρ s Q _ R kk
end
theorem hb1 {K:Params→Frag} {f:Addr} {y:Str} (h:∀v,Binds K f [v] [] [(y,v)]) {a:AV} (P:Params) (ρ:List OA) (vs:List Value) (kvs:List (Str×Value)) (ha:All2 (den ρ) [a] vs) (hk:cY ρ [] kvs):
  ∃binds,(∀s:Shared,(K P).In s.heap→BindsTo s (gH (K P) f) ⟨vs,kvs⟩ binds)∧cY ρ [(y,a)] binds:=by
 cases hk
 cases ha with|cons d1 ha=>cases ha;exact⟨_,fun s X=>(h _).to P s X,.cons ⟨rfl,d1⟩ .nil⟩
theorem hb2 {K:Params→Frag} {f:Addr} {y z:Str} (h:∀v u,Binds K f [v,u] [] [(y,v),(z,u)]) {a b:AV} (P:Params) (ρ:List OA) (vs:List Value) (kvs:List (Str×Value)) (ha:All2 (den ρ) [a,b] vs) (hk:cY ρ [] kvs):
  ∃binds,(∀s:Shared,(K P).In s.heap→BindsTo s (gH (K P) f) ⟨vs,kvs⟩ binds)∧cY ρ [(y,a),(z,b)] binds:=by
 cases hk
 cases ha with|cons d1 ha=>cases ha with|cons d2 ha=>cases ha;exact⟨_,fun s X=>(h _ _).to P s X,.cons ⟨rfl,d1⟩ (.cons ⟨rfl,d2⟩ .nil)⟩
end Mine
end
section
namespace Mine
section
variable {K:Params→Frag} {n:Nat} {sc:Scope} {st st₁ st₂ st₃:AS} {pos p:Pos}
theorem aI {t:Tab} {m:Nat} (ht:TabOk K t) {e:Expr} {st st':AS} {td:List Td} {a:AV} {obs:List Prop} (h:(lv K t n sc m).ev e st td=some (a,st',[],obs)) (ho:∀p∈obs,p):DoesE K n sc e st a st':=
 fun x hx ρ=>(jJ ht hx m).1 ρ e _ _ _ _ _ _ h ho
end
end Mine
end
section
namespace Mine
section
variable {K:Params→Frag} {n:Nat} {objs:List AO} {a:AV} {y:Str} {i:Int}
theorem cC {f:Value} {args:List AV} {v:AV} (h:∀(w:World) (A:Around) (s:Shared) (Q:Value→Shared→Prop) (E:Value→Shared→Prop) (ρ:List OA) (vs:List Value),All2 (den ρ) args vs→(∀r k,den ρ v r→Q r {s with toks:=k})→wpAny (model P0 w) A (call f vs []) Q E s):
  DoesCall K n f args [] objs v objs:=by
 intro x hx loc ρ vs kvs ha hk s Q E R kk
 cases hk
 exact gK R.tk (to1 (h x.w x.A s _ _ ρ vs ha fun r k d ht=>kk r _ ρ (R.toks ht) ((Next.refl ..).toks k) d))
theorem wM:DoesCall K n (.type "type") [.int i] [] objs (.val (.type "int")) objs:=cC fun w A s Q E ρ vs ha k=>by
 cases ha with|cons d ha=>cases ha;obtain⟨t,rfl⟩:=d;exact call_type_of (typeIs_int _ _ _) (by decide) (k _ s.toks rfl)
theorem mU (h:cS a=some y):DoesCall K n (.type "type") [a] [] objs (.val (.type "str")) objs:=cC fun w A s Q E ρ vs ha k=>by
 cases ha with|cons d ha=>cases ha;obtain⟨t,rfl,_⟩:=bK h d;exact call_type_of (typeIs_str _ _ _) (by decide) (k _ s.toks rfl)
theorem wS:DoesCall K n (.type "int") [.int i] [] objs (.int i) objs:=cC fun w A s Q E ρ vs ha k=>by
 cases ha with|cons d ha=>cases ha;obtain⟨t,rfl⟩:=d;exact call_int_int (k _ s.toks ⟨_,rfl⟩)
theorem vJ (h:cS a=some y):DoesCall K n (.builtin "len") [a] [] objs (.isym y.length) objs:=cC fun w A s Q E ρ vs ha k=>by
 cases ha with
 |cons d ha=>
  cases ha
  refine aH (bK h d) fun t q1_ hl=> ?_;subst q1_
  refine len_str ?_ (k _ _ ⟨_,rfl⟩)
  rw [sizeLine_eq]at hl
  lia
theorem gD (h:cS a=some y):DoesCall K n (.builtin "isinstance") [a,.val (.type "str")] [] objs (.bool true) objs:=cC fun w A s Q E ρ vs ha k=>by
 cases ha with
 |cons d ha=>
  cases ha with
  |cons d2 ha=>
   cases ha
   refine aH (bK h d) fun t q1_ hl=> ?_;subst q1_
   cases d2
   exact IsiPair.str_str (k _ s.toks rfl)
end
theorem all_nil:∀p∈([]:List Prop),p:=fun zz h=>nomatch h
theorem aA {p:Prop} {l:List Prop} (h:p) (k:∀q∈l,q):∀q∈p::l,q:=fun q hq=>by
 rcases List.mem_cons.mp hq with rfl|hq
 ·exact h
 ·exact k q hq
structure Prog (K:Params→Frag):Prop where
 tab:TabOk K mZ
 f63:FnIs K 63 (aC aR 6)
 b63:∀v u,Binds K 63 [v,u] [] [("n",v),("what",u)]
 f374:FnIs K 374 (aC ioB 2)
 b374:∀v u,Binds K 374 [v,u] [] [("self",v),("s",u)]
 f381:FnIs K 381 (aC ioB 3)
 b381:∀v,Binds K 381 [v] [] [("self",v)]
 f543:FnIs K 543 (aC ioB 25)
 b543:∀v u,Binds K 543 [v,u] [] [("self",v),("size",u)]
 f663:FnIs K 663 (aC shB 1)
 b663:∀v,Binds K 663 [v] [] [("self",v)]
 f693:FnIs K 693 (aC shB 5)
 b693:∀v,Binds K 693 [v] [] [("self",v)]
 f700:FnIs K 700 (aC shB 6)
 b700:∀v,Binds K 700 [v] [] [("self",v)]
noncomputable def ioO (b:Str) (p:Int):AO:=.inst 597 [("_StringIO__newline",.str "\n"),("_StringIO__buf",.sym none b),("_StringIO__pos",.isym p)]
section
variable {K:Params→Frag} (hP:Prog K) {n:Nat} {lx:AO} {rest objs:List AO} {b:Str} {p:Int} {w:Str}
include hP
theorem nS:DoesCall K (n+1) (.ref 63) [.int 1,.str w] [] objs (.int 1) objs:=
 bZ hP.f63.fn (hb2 hP.b63) (by kernel_rfl) (bI (by kernel_rfl)) (fl:=.ret (.int 1)) (loc':=[("n",.int 1),("what",.str w)])
  (aB (m:=20) (k:=20) (td:=[.c (.val (.type "int")) objs,.c (.int 1) objs]) (obs:=[DoesCall K n (.type "type") [.int 1] [] objs (.val (.type "int")) objs,DoesCall K n (.type "int") [.int 1] [] objs (.int 1) objs]) hP.tab (by kernel_rfl)
   (aA wM (aA wS all_nil))) rfl
theorem nT:DoesCall K (n+1) (.ref 381) [.obj 1] [] (lx::ioO b p::rest) .none (lx::ioO b p::rest):=
 bZ hP.f381.fn (hb1 hP.b381) (by kernel_rfl) (bI (by kernel_rfl)) (fl:=.next) (loc':=[("self",.obj 1)])
  (aB (m:=20) (k:=20) (td:=[]) (obs:=[]) hP.tab (by kernel_rfl) (fun zz h=>nomatch h)) rfl
end
end Mine
end
section
namespace Mine
theorem oK (x:Str) {a b:Nat} (hab:a≤b) (hb:b≤x.length):(Txt.slice x (some (a:Int)) (some (b:Int))).cps.toList=(x.cps.toList.drop a).take (b - a):=by
 unfold Txt.slice
 split
 ·rename_i q
  simp only [beq_self_eq_true,Bool.true_and,beq_iff_eq,StrLaws.strSliceIndices_plain hab hb,List.length_map,List.length_range]at q
  have h0:a=0:=by lia
  subst h0
  have:x.cps.toList.length=b - 0:=by rw [Array.length_toList];exact q.symm
  rw [List.drop_zero,←this,List.take_length]
 ·show((Builtin.Str.strSliceIndices (some (a:Int)) (some (b:Int)) 1 x.length).filterMap (x.cps[·]?)).toArray.toList=_
  rw [StrLaws.sliced_plain x hab hb]
theorem gG {x y:Str} (h:x.cps.toList=y.cps.toList):x=y:=by
 obtain⟨⟨l⟩⟩:=x
 obtain⟨⟨r⟩⟩:=y
 simp only at h
 rw [h]
theorem aI8 {b:Str} {p:Nat} {c:Nat} (h:b.cps[p]?=some c):Txt.slice b (some (p:Int)) (some ((p:Int)+1))=⟨#[c]⟩:=by
 have hp:p<b.cps.size:=(Array.getElem?_eq_some_iff.mp h).1
 have:=oK b (a:=p) (b:=p+1) (by lia) hp
 refine gG (this.trans ?_)
 have e:p+1 - p=1:=by lia
 rw [e]
 have hl:p<b.cps.toList.length:=by rw [Array.length_toList];exact hp
 rw [List.drop_eq_getElem_cons hl]
 have:b.cps.toList[p]=c:=by
  have:=(Array.getElem?_eq_some_iff.mp h).2
  simpa using this
 rw [this]
 rfl
section
variable {K:Params→Frag} (hP:Prog K) {n:Nat} {lx:AO} {rest:List AO} {b:Str} {p:Nat}
include hP
theorem fH (h:b.length≤p):DoesCall K (n+2) (.ref 543) [.obj 1,.int 1] [] (lx::ioO b p::rest) (.str "") (lx::ioO b p::rest):=by
 refine bZ hP.f543.fn (hb2 hP.b543) (by kernel_rfl) (bI (by kernel_rfl)) (fl:=.ret (.str "")) (loc':=[("self",.obj 1),("size",.int 1),("start",.isym p),("stop",.isym b.length)])
  (aB (m:=20) (k:=20) (td:=[.c (.int 1) (lx::ioO b p::rest),.c .none (lx::ioO b p::rest),.c (.isym b.length) (lx::ioO b p::rest),.b true])
   (obs:=[DoesCall K (n+1) (.ref 63) [.int 1,.str "StringIO.read of a size that is no exact int"] [] (lx::ioO b p::rest) (.int 1) (lx::ioO b p::rest),
    DoesCall K (n+1) (.ref 381) [.obj 1] [] (lx::ioO b p::rest) .none (lx::ioO b p::rest),
    DoesCall K (n+1) (.builtin "len") [.sym none b] [] (lx::ioO b p::rest) (.isym b.length) (lx::ioO b p::rest),
    decide ((b.length:Int)≤(p:Int))=true]) hP.tab (by kernel_rfl) ?_) rfl
 exact aA (nS hP) (aA (nT hP) (aA (vJ rfl) (aA (decide_eq_true (by lia)) all_nil)))
theorem fF {c:Nat} {k:Cls} (h:b.cps[p]?=some c) (hk:k.has c):DoesCall K (n+2) (.ref 543) [.obj 1,.int 1] [] (lx::ioO b p::rest) (.chr k c) (lx::ioO b (p+1:Nat)::rest):=by
 have hp:p<b.cps.size:=(Array.getElem?_eq_some_iff.mp h).1
 have hp':p<b.length:=hp
 have e0:decide ((b.length:Int)≤(p:Int))=false:=decide_eq_false (by lia)
 have last:∀ρ v,den ρ (.sym none (Txt.slice b (some (p:Int)) (some ((p:Int)+1)))) v→den ρ (.chr k c) v:=fun ρ v d=>by
  obtain⟨⟨t,rfl⟩,_⟩:=d
  rw [aI8 h]
  exact⟨⟨t,rfl⟩,hk⟩
 by_cases q:p+1<b.length
 ·refine bZ hP.f543.fn (hb2 hP.b543) (by kernel_rfl) (bI (by kernel_rfl)) (fl:=.ret (.chr k c)) (loc':=[("self",.obj 1),("size",.int 1),("start",.isym p),("stop",.isym ((p:Int)+1))])
   (aB (m:=20) (k:=20) (td:=[.c (.int 1) (lx::ioO b p::rest),.c .none (lx::ioO b p::rest),.c (.isym b.length) (lx::ioO b p::rest),.b false,.b true,.v (.chr k c)])
    (obs:=[DoesCall K (n+1) (.ref 63) [.int 1,.str "StringIO.read of a size that is no exact int"] [] (lx::ioO b p::rest) (.int 1) (lx::ioO b p::rest),
     DoesCall K (n+1) (.ref 381) [.obj 1] [] (lx::ioO b p::rest) .none (lx::ioO b p::rest),
     DoesCall K (n+1) (.builtin "len") [.sym none b] [] (lx::ioO b p::rest) (.isym b.length) (lx::ioO b p::rest),
     decide ((b.length:Int)≤(p:Int))=false,decide ((p:Int)+1<(b.length:Int))=true,
     ∀ρ v,den ρ (.sym none (Txt.slice b (some (p:Int)) (some ((p:Int)+1)))) v→den ρ (.chr k c) v]) hP.tab (by kernel_rfl) ?_) rfl
  exact aA (nS hP) (aA (nT hP) (aA (vJ rfl) (aA e0 (aA (decide_eq_true (by lia)) (aA last all_nil)))))
 ·have e1:((p+1:Nat):Int)=(b.length:Int):=by lia
  have e2:(p:Int)+1=(b.length:Int):=by lia
  rw [e1]
  rw [e2]at last
  refine bZ hP.f543.fn (hb2 hP.b543) (by kernel_rfl) (bI (by kernel_rfl)) (fl:=.ret (.chr k c)) (loc':=[("self",.obj 1),("size",.int 1),("start",.isym p),("stop",.isym b.length)])
   (aB (m:=20) (k:=20) (td:=[.c (.int 1) (lx::ioO b p::rest),.c .none (lx::ioO b p::rest),.c (.isym b.length) (lx::ioO b p::rest),.b false,.b false,.v (.chr k c)])
    (obs:=[DoesCall K (n+1) (.ref 63) [.int 1,.str "StringIO.read of a size that is no exact int"] [] (lx::ioO b p::rest) (.int 1) (lx::ioO b p::rest),
     DoesCall K (n+1) (.ref 381) [.obj 1] [] (lx::ioO b p::rest) .none (lx::ioO b p::rest),
     DoesCall K (n+1) (.builtin "len") [.sym none b] [] (lx::ioO b p::rest) (.isym b.length) (lx::ioO b p::rest),
     decide ((b.length:Int)≤(p:Int))=false,decide ((p:Int)+1<(b.length:Int))=false,
     ∀ρ v,den ρ (.sym none (Txt.slice b (some (p:Int)) (some (b.length:Int)))) v→den ρ (.chr k c) v]) hP.tab (by kernel_rfl) ?_) rfl
  exact aA (nS hP) (aA (nT hP) (aA (vJ rfl) (aA e0 (aA (decide_eq_false (by lia)) (aA last all_nil)))))
end
end Mine
end
section
namespace Mine
noncomputable def wordsA:Str:="abcdfeghijklmnopqrstuvwxyzABCDEFGHIJKLMNOPQRSTUVWXYZ0123456789_"
noncomputable def gQ:Str:="ßàáâãäåæçèéêëìíîïðñòóôõöøùúûüýþÿÀÁÂÃÄÅÆÇÈÉÊËÌÍÎÏÐÑÒÓÔÕÖØÙÚÛÜÝÞ"
noncomputable def aK0:Str:="~-./*?="
noncomputable def aCa (com words punct:Str) (more:List (Str×AV)) (state token lineno:AV):AO:=.inst 732 (([("instream",.obj 1),("infile",.none),("posix",.bool true),("eof",.none),("commenters",.str com),("wordchars",.str words),("whitespace",.str " \t\r\n"),("whitespace_split",.bool true),
 ("quotes",.str "'\""),("escape",.str "\\"),("escapedquotes",.str "\""),("state",state),("pushback",.obj 2),("lineno",lineno),("debug",.int 0),("token",token),("filestack",.obj 3),("source",.none),("_punctuation_chars",.str punct)]:List (Str×AV))++more)
noncomputable def aG (state token lineno:AV):AO:=aCa "" (wordsA++gQ) "" [] state token lineno
noncomputable def aE (state token lineno:AV):AO:=aCa "#" (wordsA++gQ++aK0) "[]" [("_pushback_chars",.obj 4)] state token lineno
noncomputable def sc6:Scope:=bC (aC shB 6)
noncomputable def turnB:List Stmt:=aO (aC (aO (aC shB 6)) 2)
noncomputable def kT:List Stmt:=(aO (aC shB 6)).drop 3
noncomputable def aJ (q c:AV):List (Str×AV):=[("self",.obj 0),("quoted",q),("escapedstate",.str " "),("nextchar",c)]
noncomputable def dN:List Nat:=wordsA.cps.toList
noncomputable def dQ:List Nat:=[45,46,47,61]
noncomputable def dO:List Nat:=[64,37,43,58,44]
noncomputable def dC:List Nat:=[91,93]
section
variable {K:Params→Frag} (hP:Prog K) {n:Nat} {S T L:AV} {rest:List AO}
include hP
theorem cV:DoesCode K (n+1) (.ref 663) [.obj 0] [] (aG S T L::rest) (.str "") (aG S T L::rest):=
 lZ hP.f663.fn (hb1 hP.b663) (by kernel_rfl) (bI (by kernel_rfl)) (fl:=.ret (.str "")) (loc':=[("self",.obj 0)])
  (aB (m:=20) (k:=20) (td:=[]) (obs:=[]) hP.tab (by kernel_rfl) all_nil) rfl
theorem bF:DoesCode K (n+1) (.ref 663) [.obj 0] [] (aE S T L::rest) (.str "[]") (aE S T L::rest):=
 lZ hP.f663.fn (hb1 hP.b663) (by kernel_rfl) (bI (by kernel_rfl)) (fl:=.ret (.str "[]")) (loc':=[("self",.obj 0)])
  (aB (m:=20) (k:=20) (td:=[]) (obs:=[]) hP.tab (by kernel_rfl) all_nil) rfl
end
section
variable {K:Params→Frag} (hP:Prog K) {n:Nat} {q:AV} {ln:Int} {tk:Str} {c:Nat} {rest:List AO}
include hP
theorem aB1:DoesB K (n+2) sc6 (turnB.drop 1) ⟨aJ (.bool false) (.chr (.fin [32]) c),aG (.str " ") (.str "") (.isym ln)::rest⟩ .cont ⟨aJ (.bool false) (.chr (.fin [32]) c),aG (.str " ") (.str "") (.isym ln)::rest⟩:=
 aB (m:=20) (k:=20) (td:=[]) (obs:=[]) hP.tab (by kernel_rfl) all_nil
theorem aE2:DoesB K (n+2) sc6 (turnB.drop 1) ⟨aJ q (.chr (.fin dN) c),aG (.str " ") (.str "") (.isym ln)::rest⟩ .next ⟨aJ q (.chr (.fin dN) c),aG (.str "a") (.chr (.fin dN) c) (.isym ln)::rest⟩:=
 aB (m:=20) (k:=20) (td:=[]) (obs:=[]) hP.tab (by kernel_rfl) all_nil
theorem aE4:DoesB K (n+2) sc6 (turnB.drop 1) ⟨aJ q (.chr (.fin dQ) c),aG (.str " ") (.str "") (.isym ln)::rest⟩ .next ⟨aJ q (.chr (.fin dQ) c),aG (.str "a") (.chr (.fin dQ) c) (.isym ln)::rest⟩:=
 aB (m:=20) (k:=20) (td:=[.c (.str "") (aG (.str " ") (.str "") (.isym ln)::rest)]) (obs:=[DoesCode K (n+1) (.ref 663) [.obj 0] [] (aG (.str " ") (.str "") (.isym ln)::rest) (.str "") (aG (.str " ") (.str "") (.isym ln)::rest)]) hP.tab (by kernel_rfl) (aA (cV hP) all_nil)
theorem aE3:DoesB K (n+2) sc6 (turnB.drop 1) ⟨aJ q (.chr (.fin dO) c),aG (.str " ") (.str "") (.isym ln)::rest⟩ .next ⟨aJ q (.chr (.fin dO) c),aG (.str "a") (.chr (.fin dO) c) (.isym ln)::rest⟩:=
 aB (m:=20) (k:=20) (td:=[.c (.str "") (aG (.str " ") (.str "") (.isym ln)::rest)]) (obs:=[DoesCode K (n+1) (.ref 663) [.obj 0] [] (aG (.str " ") (.str "") (.isym ln)::rest) (.str "") (aG (.str " ") (.str "") (.isym ln)::rest)]) hP.tab (by kernel_rfl) (aA (cV hP) all_nil)
theorem aHx:DoesB K (n+2) sc6 (turnB.drop 1) ⟨aJ q (.chr (.fin dC) c),aG (.str " ") (.str "") (.isym ln)::rest⟩ .next ⟨aJ q (.chr (.fin dC) c),aG (.str "a") (.chr (.fin dC) c) (.isym ln)::rest⟩:=
 aB (m:=20) (k:=20) (td:=[.c (.str "") (aG (.str " ") (.str "") (.isym ln)::rest)]) (obs:=[DoesCode K (n+1) (.ref 663) [.obj 0] [] (aG (.str " ") (.str "") (.isym ln)::rest) (.str "") (aG (.str " ") (.str "") (.isym ln)::rest)]) hP.tab (by kernel_rfl) (aA (cV hP) all_nil)
theorem aB0:DoesB K (n+2) sc6 (turnB.drop 1) ⟨aJ q (.chr (.fin [39]) c),aG (.str " ") (.str "") (.isym ln)::rest⟩ .next ⟨aJ q (.chr (.fin [39]) c),aG (.chr (.fin [39]) c) (.str "") (.isym ln)::rest⟩:=
 aB (m:=20) (k:=20) (td:=[.c (.str "") (aG (.str " ") (.str "") (.isym ln)::rest)]) (obs:=[DoesCode K (n+1) (.ref 663) [.obj 0] [] (aG (.str " ") (.str "") (.isym ln)::rest) (.str "") (aG (.str " ") (.str "") (.isym ln)::rest)]) hP.tab (by kernel_rfl) (aA (cV hP) all_nil)
theorem aHw:DoesB K (n+2) sc6 (turnB.drop 1) ⟨aJ q (.str ""),aG (.str " ") (.str "") (.isym ln)::rest⟩ .brk ⟨aJ q (.str ""),aG .none (.str "") (.isym ln)::rest⟩:=
 aB (m:=20) (k:=20) (td:=[]) (obs:=[]) hP.tab (by kernel_rfl) all_nil
theorem aE9:DoesB K (n+2) sc6 (turnB.drop 1) ⟨aJ q (.chr (.fin [32]) c),aG (.str "a") (.sym (some true) tk) (.isym ln)::rest⟩ .brk ⟨aJ q (.chr (.fin [32]) c),aG (.str " ") (.sym (some true) tk) (.isym ln)::rest⟩:=
 aB (m:=20) (k:=20) (td:=[]) (obs:=[]) hP.tab (by kernel_rfl) all_nil
theorem pQ (hb:(match tk.cps.toList with|[]=>false|_=>true)=true):DoesB K (n+2) sc6 (turnB.drop 1) ⟨aJ (.bool true) (.chr (.fin [32]) c),aG (.str "a") (.sym none tk) (.isym ln)::rest⟩ .brk ⟨aJ (.bool true) (.chr (.fin [32]) c),aG (.str " ") (.sym none tk) (.isym ln)::rest⟩:=
 aB (m:=20) (k:=20) (td:=[.b true]) (obs:=[(match tk.cps.toList with|[]=>false|_=>true)=true]) hP.tab (by kernel_rfl) (aA hb all_nil)
theorem oD (hb:(match tk.cps.toList with|[]=>false|_=>true)=false):DoesB K (n+2) sc6 (turnB.drop 1) ⟨aJ (.bool true) (.chr (.fin [32]) c),aG (.str "a") (.sym none tk) (.isym ln)::rest⟩ .brk ⟨aJ (.bool true) (.chr (.fin [32]) c),aG (.str " ") (.sym none tk) (.isym ln)::rest⟩:=
 aB (m:=20) (k:=20) (td:=[.b false]) (obs:=[(match tk.cps.toList with|[]=>false|_=>true)=false]) hP.tab (by kernel_rfl) (aA hb all_nil)
theorem aHz (hl:tk.length+1≤sizeLine):DoesB K (n+2) sc6 (turnB.drop 1) ⟨aJ q (.chr (.fin dN) c),aG (.str "a") (.sym none tk) (.isym ln)::rest⟩ .next ⟨aJ q (.chr (.fin dN) c),aG (.str "a") (.sym (some true) (tk++⟨#[c]⟩)) (.isym ln)::rest⟩:=
 aB (m:=20) (k:=20) (td:=[]) (obs:=[tk.length+Str.length ⟨#[c]⟩≤sizeLine]) hP.tab (by kernel_rfl) (aA hl all_nil)
theorem aI1 (hl:tk.length+1≤sizeLine):DoesB K (n+2) sc6 (turnB.drop 1) ⟨aJ q (.chr (.fin dQ) c),aG (.str "a") (.sym none tk) (.isym ln)::rest⟩ .next ⟨aJ q (.chr (.fin dQ) c),aG (.str "a") (.sym (some true) (tk++⟨#[c]⟩)) (.isym ln)::rest⟩:=
 aB (m:=20) (k:=20) (td:=[.c (.str "") (aG (.str "a") (.sym none tk) (.isym ln)::rest)]) (obs:=[DoesCode K (n+1) (.ref 663) [.obj 0] [] (aG (.str "a") (.sym none tk) (.isym ln)::rest) (.str "") (aG (.str "a") (.sym none tk) (.isym ln)::rest),tk.length+Str.length ⟨#[c]⟩≤sizeLine]) hP.tab (by kernel_rfl) (aA (cV hP) (aA hl all_nil))
theorem aI0 (hl:tk.length+1≤sizeLine):DoesB K (n+2) sc6 (turnB.drop 1) ⟨aJ q (.chr (.fin dO) c),aG (.str "a") (.sym none tk) (.isym ln)::rest⟩ .next ⟨aJ q (.chr (.fin dO) c),aG (.str "a") (.sym (some true) (tk++⟨#[c]⟩)) (.isym ln)::rest⟩:=
 aB (m:=20) (k:=20) (td:=[.c (.str "") (aG (.str "a") (.sym none tk) (.isym ln)::rest)]) (obs:=[DoesCode K (n+1) (.ref 663) [.obj 0] [] (aG (.str "a") (.sym none tk) (.isym ln)::rest) (.str "") (aG (.str "a") (.sym none tk) (.isym ln)::rest),tk.length+Str.length ⟨#[c]⟩≤sizeLine]) hP.tab (by kernel_rfl) (aA (cV hP) (aA hl all_nil))
theorem aKg (hl:tk.length+1≤sizeLine):DoesB K (n+2) sc6 (turnB.drop 1) ⟨aJ q (.chr (.fin dC) c),aG (.str "a") (.sym none tk) (.isym ln)::rest⟩ .next ⟨aJ q (.chr (.fin dC) c),aG (.str "a") (.sym (some true) (tk++⟨#[c]⟩)) (.isym ln)::rest⟩:=
 aB (m:=20) (k:=20) (td:=[.c (.str "") (aG (.str "a") (.sym none tk) (.isym ln)::rest)]) (obs:=[DoesCode K (n+1) (.ref 663) [.obj 0] [] (aG (.str "a") (.sym none tk) (.isym ln)::rest) (.str "") (aG (.str "a") (.sym none tk) (.isym ln)::rest),tk.length+Str.length ⟨#[c]⟩≤sizeLine]) hP.tab (by kernel_rfl) (aA (cV hP) (aA hl all_nil))
theorem aE8:DoesB K (n+2) sc6 (turnB.drop 1) ⟨aJ q (.chr (.fin [39]) c),aG (.str "a") (.sym none tk) (.isym ln)::rest⟩ .next ⟨aJ q (.chr (.fin [39]) c),aG (.chr (.fin [39]) c) (.sym none tk) (.isym ln)::rest⟩:=
 aB (m:=20) (k:=20) (td:=[]) (obs:=[]) hP.tab (by kernel_rfl) all_nil
theorem aB3:DoesB K (n+2) sc6 (turnB.drop 1) ⟨aJ q (.chr (.fin [34]) c),aG (.str "a") (.sym none tk) (.isym ln)::rest⟩ .next ⟨aJ q (.chr (.fin [34]) c),aG (.chr (.fin [34]) c) (.sym none tk) (.isym ln)::rest⟩:=
 aB (m:=20) (k:=20) (td:=[]) (obs:=[]) hP.tab (by kernel_rfl) all_nil
theorem aKf:DoesB K (n+2) sc6 (turnB.drop 1) ⟨aJ q (.str ""),aG (.str "a") (.sym none tk) (.isym ln)::rest⟩ .brk ⟨aJ q (.str ""),aG .none (.sym none tk) (.isym ln)::rest⟩:=
 aB (m:=20) (k:=20) (td:=[]) (obs:=[]) hP.tab (by kernel_rfl) all_nil
theorem aE5:DoesB K (n+2) sc6 (turnB.drop 1) ⟨aJ q (.chr (.fin [39]) c),aG (.str "'") (.sym none tk) (.isym ln)::rest⟩ .next ⟨aJ (.bool true) (.chr (.fin [39]) c),aG (.str "a") (.sym none tk) (.isym ln)::rest⟩:=
 aB (m:=20) (k:=20) (td:=[]) (obs:=[]) hP.tab (by kernel_rfl) all_nil
theorem aN0 (hl:tk.length+1≤sizeLine):DoesB K (n+2) sc6 (turnB.drop 1) ⟨aJ q (.chr (.fin [10]) c),aG (.str "'") (.sym none tk) (.isym ln)::rest⟩ .next ⟨aJ (.bool true) (.chr (.fin [10]) c),aG (.str "'") (.sym (some true) (tk++⟨#[c]⟩)) (.isym (ln+1))::rest⟩:=
 aB (m:=20) (k:=20) (td:=[]) (obs:=[tk.length+Str.length ⟨#[c]⟩≤sizeLine]) hP.tab (by kernel_rfl) (aA hl all_nil)
theorem aHy (hl:tk.length+1≤sizeLine):DoesB K (n+2) sc6 (turnB.drop 1) ⟨aJ q (.chr (.fin [92]) c),aG (.str "'") (.sym none tk) (.isym ln)::rest⟩ .next ⟨aJ (.bool true) (.chr (.fin [92]) c),aG (.str "'") (.sym (some true) (tk++⟨#[c]⟩)) (.isym ln)::rest⟩:=
 aB (m:=20) (k:=20) (td:=[]) (obs:=[tk.length+Str.length ⟨#[c]⟩≤sizeLine]) hP.tab (by kernel_rfl) (aA hl all_nil)
theorem aE6 (hl:tk.length+1≤sizeLine):DoesB K (n+2) sc6 (turnB.drop 1) ⟨aJ q (.chr (.cofin [39,10,92]) c),aG (.str "'") (.sym none tk) (.isym ln)::rest⟩ .next ⟨aJ (.bool true) (.chr (.cofin [39,10,92]) c),aG (.str "'") (.sym (some true) (tk++⟨#[c]⟩)) (.isym ln)::rest⟩:=
 aB (m:=20) (k:=20) (td:=[]) (obs:=[tk.length+Str.length ⟨#[c]⟩≤sizeLine]) hP.tab (by kernel_rfl) (aA hl all_nil)
theorem aB2:DoesB K (n+2) sc6 (turnB.drop 1) ⟨aJ q (.chr (.fin [34]) c),aG (.str "\"") (.sym none tk) (.isym ln)::rest⟩ .next ⟨aJ (.bool true) (.chr (.fin [34]) c),aG (.str "a") (.sym none tk) (.isym ln)::rest⟩:=
 aB (m:=20) (k:=20) (td:=[]) (obs:=[]) hP.tab (by kernel_rfl) all_nil
theorem aE7 (hl:tk.length+1≤sizeLine):DoesB K (n+2) sc6 (turnB.drop 1) ⟨aJ q (.chr (.fin [39]) c),aG (.str "\"") (.sym none tk) (.isym ln)::rest⟩ .next ⟨aJ (.bool true) (.chr (.fin [39]) c),aG (.str "\"") (.sym (some true) (tk++⟨#[c]⟩)) (.isym ln)::rest⟩:=
 aB (m:=20) (k:=20) (td:=[]) (obs:=[tk.length+Str.length ⟨#[c]⟩≤sizeLine]) hP.tab (by kernel_rfl) (aA hl all_nil)
theorem aN1 {T:AV}:DoesB K (n+2) sc6 (turnB.drop 1) ⟨aJ q (.str ""),aG .none T (.isym ln)::rest⟩ .brk ⟨aJ q (.str ""),aG .none (.str "") (.isym ln)::rest⟩:=
 aB (m:=20) (k:=20) (td:=[]) (obs:=[]) hP.tab (by kernel_rfl) all_nil
theorem aAx:DoesB K (n+2) sc6 (turnB.drop 1) ⟨aJ (.bool false) (.chr (.fin [32]) c),aE (.str " ") (.str "") (.isym ln)::rest⟩ .cont ⟨aJ (.bool false) (.chr (.fin [32]) c),aE (.str " ") (.str "") (.isym ln)::rest⟩:=
 aB (m:=20) (k:=20) (td:=[]) (obs:=[]) hP.tab (by kernel_rfl) all_nil
theorem aDs:DoesB K (n+2) sc6 (turnB.drop 1) ⟨aJ q (.chr (.fin dN) c),aE (.str " ") (.str "") (.isym ln)::rest⟩ .next ⟨aJ q (.chr (.fin dN) c),aE (.str "a") (.chr (.fin dN) c) (.isym ln)::rest⟩:=
 aB (m:=20) (k:=20) (td:=[]) (obs:=[]) hP.tab (by kernel_rfl) all_nil
theorem aDu:DoesB K (n+2) sc6 (turnB.drop 1) ⟨aJ q (.chr (.fin dQ) c),aE (.str " ") (.str "") (.isym ln)::rest⟩ .next ⟨aJ q (.chr (.fin dQ) c),aE (.str "a") (.chr (.fin dQ) c) (.isym ln)::rest⟩:=
 aB (m:=20) (k:=20) (td:=[]) (obs:=[]) hP.tab (by kernel_rfl) all_nil
theorem aDt:DoesB K (n+2) sc6 (turnB.drop 1) ⟨aJ q (.chr (.fin dO) c),aE (.str " ") (.str "") (.isym ln)::rest⟩ .next ⟨aJ q (.chr (.fin dO) c),aE (.str "a") (.chr (.fin dO) c) (.isym ln)::rest⟩:=
 aB (m:=20) (k:=20) (td:=[.c (.str "[]") (aE (.str " ") (.str "") (.isym ln)::rest)]) (obs:=[DoesCode K (n+1) (.ref 663) [.obj 0] [] (aE (.str " ") (.str "") (.isym ln)::rest) (.str "[]") (aE (.str " ") (.str "") (.isym ln)::rest)]) hP.tab (by kernel_rfl) (aA (bF hP) all_nil)
theorem aHo:DoesB K (n+2) sc6 (turnB.drop 1) ⟨aJ q (.chr (.fin dC) c),aE (.str " ") (.str "") (.isym ln)::rest⟩ .next ⟨aJ q (.chr (.fin dC) c),aE (.str "c") (.chr (.fin dC) c) (.isym ln)::rest⟩:=
 aB (m:=20) (k:=20) (td:=[.c (.str "[]") (aE (.str " ") (.str "") (.isym ln)::rest)]) (obs:=[DoesCode K (n+1) (.ref 663) [.obj 0] [] (aE (.str " ") (.str "") (.isym ln)::rest) (.str "[]") (aE (.str " ") (.str "") (.isym ln)::rest)]) hP.tab (by kernel_rfl) (aA (bF hP) all_nil)
theorem aAw:DoesB K (n+2) sc6 (turnB.drop 1) ⟨aJ q (.chr (.fin [39]) c),aE (.str " ") (.str "") (.isym ln)::rest⟩ .next ⟨aJ q (.chr (.fin [39]) c),aE (.chr (.fin [39]) c) (.str "") (.isym ln)::rest⟩:=
 aB (m:=20) (k:=20) (td:=[.c (.str "[]") (aE (.str " ") (.str "") (.isym ln)::rest)]) (obs:=[DoesCode K (n+1) (.ref 663) [.obj 0] [] (aE (.str " ") (.str "") (.isym ln)::rest) (.str "[]") (aE (.str " ") (.str "") (.isym ln)::rest)]) hP.tab (by kernel_rfl) (aA (bF hP) all_nil)
theorem aHn:DoesB K (n+2) sc6 (turnB.drop 1) ⟨aJ q (.str ""),aE (.str " ") (.str "") (.isym ln)::rest⟩ .brk ⟨aJ q (.str ""),aE .none (.str "") (.isym ln)::rest⟩:=
 aB (m:=20) (k:=20) (td:=[]) (obs:=[]) hP.tab (by kernel_rfl) all_nil
theorem aE1:DoesB K (n+2) sc6 (turnB.drop 1) ⟨aJ q (.chr (.fin [32]) c),aE (.str "a") (.sym (some true) tk) (.isym ln)::rest⟩ .brk ⟨aJ q (.chr (.fin [32]) c),aE (.str " ") (.sym (some true) tk) (.isym ln)::rest⟩:=
 aB (m:=20) (k:=20) (td:=[]) (obs:=[]) hP.tab (by kernel_rfl) all_nil
theorem pP (hb:(match tk.cps.toList with|[]=>false|_=>true)=true):DoesB K (n+2) sc6 (turnB.drop 1) ⟨aJ (.bool true) (.chr (.fin [32]) c),aE (.str "a") (.sym none tk) (.isym ln)::rest⟩ .brk ⟨aJ (.bool true) (.chr (.fin [32]) c),aE (.str " ") (.sym none tk) (.isym ln)::rest⟩:=
 aB (m:=20) (k:=20) (td:=[.b true]) (obs:=[(match tk.cps.toList with|[]=>false|_=>true)=true]) hP.tab (by kernel_rfl) (aA hb all_nil)
theorem oC (hb:(match tk.cps.toList with|[]=>false|_=>true)=false):DoesB K (n+2) sc6 (turnB.drop 1) ⟨aJ (.bool true) (.chr (.fin [32]) c),aE (.str "a") (.sym none tk) (.isym ln)::rest⟩ .brk ⟨aJ (.bool true) (.chr (.fin [32]) c),aE (.str " ") (.sym none tk) (.isym ln)::rest⟩:=
 aB (m:=20) (k:=20) (td:=[.b false]) (obs:=[(match tk.cps.toList with|[]=>false|_=>true)=false]) hP.tab (by kernel_rfl) (aA hb all_nil)
theorem aHt (hl:tk.length+1≤sizeLine):DoesB K (n+2) sc6 (turnB.drop 1) ⟨aJ q (.chr (.fin dN) c),aE (.str "a") (.sym none tk) (.isym ln)::rest⟩ .next ⟨aJ q (.chr (.fin dN) c),aE (.str "a") (.sym (some true) (tk++⟨#[c]⟩)) (.isym ln)::rest⟩:=
 aB (m:=20) (k:=20) (td:=[]) (obs:=[tk.length+Str.length ⟨#[c]⟩≤sizeLine]) hP.tab (by kernel_rfl) (aA hl all_nil)
theorem aHv (hl:tk.length+1≤sizeLine):DoesB K (n+2) sc6 (turnB.drop 1) ⟨aJ q (.chr (.fin dQ) c),aE (.str "a") (.sym none tk) (.isym ln)::rest⟩ .next ⟨aJ q (.chr (.fin dQ) c),aE (.str "a") (.sym (some true) (tk++⟨#[c]⟩)) (.isym ln)::rest⟩:=
 aB (m:=20) (k:=20) (td:=[]) (obs:=[tk.length+Str.length ⟨#[c]⟩≤sizeLine]) hP.tab (by kernel_rfl) (aA hl all_nil)
theorem aHu (hl:tk.length+1≤sizeLine):DoesB K (n+2) sc6 (turnB.drop 1) ⟨aJ q (.chr (.fin dO) c),aE (.str "a") (.sym none tk) (.isym ln)::rest⟩ .next ⟨aJ q (.chr (.fin dO) c),aE (.str "a") (.sym (some true) (tk++⟨#[c]⟩)) (.isym ln)::rest⟩:=
 aB (m:=20) (k:=20) (td:=[.c (.str "[]") (aE (.str "a") (.sym none tk) (.isym ln)::rest)]) (obs:=[DoesCode K (n+1) (.ref 663) [.obj 0] [] (aE (.str "a") (.sym none tk) (.isym ln)::rest) (.str "[]") (aE (.str "a") (.sym none tk) (.isym ln)::rest),tk.length+Str.length ⟨#[c]⟩≤sizeLine]) hP.tab (by kernel_rfl) (aA (bF hP) (aA hl all_nil))
theorem aE0:DoesB K (n+2) sc6 (turnB.drop 1) ⟨aJ q (.chr (.fin [39]) c),aE (.str "a") (.sym none tk) (.isym ln)::rest⟩ .next ⟨aJ q (.chr (.fin [39]) c),aE (.chr (.fin [39]) c) (.sym none tk) (.isym ln)::rest⟩:=
 aB (m:=20) (k:=20) (td:=[]) (obs:=[]) hP.tab (by kernel_rfl) all_nil
theorem aAz:DoesB K (n+2) sc6 (turnB.drop 1) ⟨aJ q (.chr (.fin [34]) c),aE (.str "a") (.sym none tk) (.isym ln)::rest⟩ .next ⟨aJ q (.chr (.fin [34]) c),aE (.chr (.fin [34]) c) (.sym none tk) (.isym ln)::rest⟩:=
 aB (m:=20) (k:=20) (td:=[]) (obs:=[]) hP.tab (by kernel_rfl) all_nil
theorem aKd:DoesB K (n+2) sc6 (turnB.drop 1) ⟨aJ q (.str ""),aE (.str "a") (.sym none tk) (.isym ln)::rest⟩ .brk ⟨aJ q (.str ""),aE .none (.sym none tk) (.isym ln)::rest⟩:=
 aB (m:=20) (k:=20) (td:=[]) (obs:=[]) hP.tab (by kernel_rfl) all_nil
theorem aDv:DoesB K (n+2) sc6 (turnB.drop 1) ⟨aJ q (.chr (.fin [39]) c),aE (.str "'") (.sym none tk) (.isym ln)::rest⟩ .next ⟨aJ (.bool true) (.chr (.fin [39]) c),aE (.str "a") (.sym none tk) (.isym ln)::rest⟩:=
 aB (m:=20) (k:=20) (td:=[]) (obs:=[]) hP.tab (by kernel_rfl) all_nil
theorem aMy (hl:tk.length+1≤sizeLine):DoesB K (n+2) sc6 (turnB.drop 1) ⟨aJ q (.chr (.fin [10]) c),aE (.str "'") (.sym none tk) (.isym ln)::rest⟩ .next ⟨aJ (.bool true) (.chr (.fin [10]) c),aE (.str "'") (.sym (some true) (tk++⟨#[c]⟩)) (.isym (ln+1))::rest⟩:=
 aB (m:=20) (k:=20) (td:=[]) (obs:=[tk.length+Str.length ⟨#[c]⟩≤sizeLine]) hP.tab (by kernel_rfl) (aA hl all_nil)
theorem aHp (hl:tk.length+1≤sizeLine):DoesB K (n+2) sc6 (turnB.drop 1) ⟨aJ q (.chr (.fin [92]) c),aE (.str "'") (.sym none tk) (.isym ln)::rest⟩ .next ⟨aJ (.bool true) (.chr (.fin [92]) c),aE (.str "'") (.sym (some true) (tk++⟨#[c]⟩)) (.isym ln)::rest⟩:=
 aB (m:=20) (k:=20) (td:=[]) (obs:=[tk.length+Str.length ⟨#[c]⟩≤sizeLine]) hP.tab (by kernel_rfl) (aA hl all_nil)
theorem aDw (hl:tk.length+1≤sizeLine):DoesB K (n+2) sc6 (turnB.drop 1) ⟨aJ q (.chr (.cofin [39,10,92]) c),aE (.str "'") (.sym none tk) (.isym ln)::rest⟩ .next ⟨aJ (.bool true) (.chr (.cofin [39,10,92]) c),aE (.str "'") (.sym (some true) (tk++⟨#[c]⟩)) (.isym ln)::rest⟩:=
 aB (m:=20) (k:=20) (td:=[]) (obs:=[tk.length+Str.length ⟨#[c]⟩≤sizeLine]) hP.tab (by kernel_rfl) (aA hl all_nil)
theorem aAy:DoesB K (n+2) sc6 (turnB.drop 1) ⟨aJ q (.chr (.fin [34]) c),aE (.str "\"") (.sym none tk) (.isym ln)::rest⟩ .next ⟨aJ (.bool true) (.chr (.fin [34]) c),aE (.str "a") (.sym none tk) (.isym ln)::rest⟩:=
 aB (m:=20) (k:=20) (td:=[]) (obs:=[]) hP.tab (by kernel_rfl) all_nil
theorem aDx (hl:tk.length+1≤sizeLine):DoesB K (n+2) sc6 (turnB.drop 1) ⟨aJ q (.chr (.fin [39]) c),aE (.str "\"") (.sym none tk) (.isym ln)::rest⟩ .next ⟨aJ (.bool true) (.chr (.fin [39]) c),aE (.str "\"") (.sym (some true) (tk++⟨#[c]⟩)) (.isym ln)::rest⟩:=
 aB (m:=20) (k:=20) (td:=[]) (obs:=[tk.length+Str.length ⟨#[c]⟩≤sizeLine]) hP.tab (by kernel_rfl) (aA hl all_nil)
theorem aMz {T:AV}:DoesB K (n+2) sc6 (turnB.drop 1) ⟨aJ q (.str ""),aE .none T (.isym ln)::rest⟩ .brk ⟨aJ q (.str ""),aE .none (.str "") (.isym ln)::rest⟩:=
 aB (m:=20) (k:=20) (td:=[]) (obs:=[]) hP.tab (by kernel_rfl) all_nil
end
end Mine
end
section
namespace Mine
theorem iX:PlainAttrs "collections.deque":=
 ⟨⟨"collections.deque.__getattribute__",by rw [typeLookup_type,builtinLookup_eq_fast];kernel_rfl,by decide+kernel⟩,by rw [typeLookup_type,builtinLookup_eq_fast];kernel_rfl⟩
theorem iD:Slot "collections.deque" "append" "collections.deque.append":=
 .of (owner:="collections.deque") (n:="append") (by rw [typeLookup_type,builtinLookup_eq_fast];kernel_rfl) (by decide+kernel) (by decide+kernel) (by decide+kernel) (by first|exact .inl (by decide+kernel)|exact .inr (by decide+kernel)) (by rw [isSubtype_type];kernel_rfl)
theorem kR:Slot "collections.deque" "pop" "collections.deque.pop":=
 .of (owner:="collections.deque") (n:="pop") (by rw [typeLookup_type,builtinLookup_eq_fast];kernel_rfl) (by decide+kernel) (by decide+kernel) (by decide+kernel) (by first|exact .inl (by decide+kernel)|exact .inr (by decide+kernel)) (by rw [isSubtype_type];kernel_rfl)
theorem rW:Slot "collections.deque" "__init__" "collections.deque.__init__":=
 .of (owner:="collections.deque") (n:="__init__") (by rw [typeLookup_type,builtinLookup_eq_fast];kernel_rfl) (by decide+kernel) (by decide+kernel) (by decide+kernel) (by first|exact .inl (by decide+kernel)|exact .inr (by decide+kernel)) (by rw [isSubtype_type];kernel_rfl)
theorem oB:typeOf (.builtin "collections.deque.append")=pure (.type "method_descriptor"):=by show builtinType _=_;rw [builtinType_eq_fast];kernel_rfl
theorem sM:typeOf (.builtin "collections.deque.pop")=pure (.type "method_descriptor"):=by show builtinType _=_;rw [builtinType_eq_fast];kernel_rfl
theorem nH:entryFor table "collections.deque.append"=some Builtin.«collections.deque.append»:=entryFor_of_tree (by kernel_rfl)
theorem rY:entryFor table "collections.deque.pop"=some Builtin.«collections.deque.pop»:=entryFor_of_tree (by kernel_rfl)
theorem rZ:entryFor table "collections.deque.__new__"=some Builtin.«collections.deque.__new__»:=entryFor_of_tree (by kernel_rfl)
theorem qD:entryFor table "collections.deque.__init__"=some Builtin.«collections.deque.__init__»:=entryFor_of_tree (by kernel_rfl)
theorem pM (a b:Value):argsOk "collections.deque.append" ⟨[a,b],[]⟩:=by unfold argsOk;kernel_rfl
theorem vP (a:Value):argsOk "collections.deque.pop" ⟨[a],[]⟩:=by unfold argsOk;kernel_rfl
theorem sB (a:Value):argsOk "collections.deque.__init__" ⟨[a],[]⟩:=by unfold argsOk;kernel_rfl
theorem xR:mroOf (.type "collections.deque")=pure [.type "collections.deque",.type "object"]:=by rw [mroOf_type];kernel_rfl
theorem pX:typeLookup (.type "collections.deque") "__new__"=pure (some (.builtin "collections.deque.__new__")):=by rw [typeLookup_type,builtinLookup_eq_fast];kernel_rfl
theorem xD:isSubtype (.type "collections.deque") (.type "collections.deque")=pure true:=by rw [isSubtype_type];kernel_rfl
theorem aA9:TypeCalled "collections.deque" "collections.deque.__new__" "collections.deque.__init__":=
 ⟨by decide+kernel,by decide+kernel,⟨_,_,xR⟩,madeBy_type xR pX (by decide+kernel),by decide+kernel,xD,rW⟩
theorem sN:checkTypeCall "collections.deque" ⟨[],[]⟩=pure ():=by kernel_rfl
theorem wB:checkBuiltinCall "collections.deque.__new__" ⟨[.type "collections.deque"],[]⟩=pure ():=by kernel_rfl
section
variable {prog:Program} {w:World} {A:Around} {E:Value→Shared→Prop} {s:Shared} {a:Addr} {vs:List Value} {k:Int} {v:Value} {Q:Value→Shared→Prop}
theorem nK (vs:List Value) (k:Int):(#[Value.none,rawInt k]++vs.toArray).extract 2 (#[Value.none,rawInt k]++vs.toArray).size=vs.toArray:=by simp
theorem yF {f:Array Value→Array Value} {Q:Unit→Shared→Prop} {M:Model} (h:s.heap.get? a=some (aU vs k)) (hz:(f vs.toArray).size≤1000)
  (hq:∀g:Obj→Obj,(g (aU vs k)=aU (f vs.toArray).toList (k+1))→Q () {s with heap:=s.heap.update a g}):wpAny M A (Builtin.Deque.change (.ref a) f) Q E s:=by
 unfold Builtin.Deque.change Builtin.Deque.state
 refine wpAny_bind (wpAny_bind (wpAny_field (x:=rawInt k) h rfl (by simp) (wpAny_pure ?_)))
 refine wpAny_updateFields h rfl (hq _ ?_) ?_
 ·show Obj.mapFields _ (aU vs k)=_
  unfold Obj.mapFields aU
  simp only [nK]
  simp [rawInt]
 ·rw [nK]
  rw [sizeLine_eq]
  simp
  lia
theorem aJe (h:s.heap.get? a=some (aU vs k)) (hz:vs.length≤900)
  (hq:∀g:Obj→Obj,(g (aU vs k)=aU (vs++[v]) (k+1))→Q .none {s with heap:=s.heap.update a g}):wpAny (model prog w) A (call (.builtin "collections.deque.append") [.ref a,v]) Q E s:=by
 refine wpAny_call_entry iD (jF h) nH ?_ (pM _ _)
 unfold Builtin.«collections.deque.append» Builtin.Deque.pushRight
 refine wpAny_bind (wpAny_pure (wpAny_bind (wpAny_bind (yF h (by simp;lia) fun g hg=> ?_))))
 have h':(s.heap.update a g).get? a=some (aU (vs++[v]) (k+1)):=by
  rw [Heap.get?_update_self _ h (by rw [hg];rfl),hg];simp
 unfold Builtin.Deque.maxlen
 refine wpAny_bind (wpAny_bind (wpAny_field (x:=.none) h' rfl (by simp) (wpAny_pure ?_)))
 refine wpAny_pure (wpAny_pure ⟨_,rfl,hq g ?_⟩)
 rw [hg];simp
theorem aQd (h:s.heap.get? a=some (aU (vs++[v]) k)) (hz:vs.length≤900)
  (hq:∀g:Obj→Obj,(g (aU (vs++[v]) k)=aU vs (k+1))→Q v {s with heap:=s.heap.update a g}):wpAny (model prog w) A (call (.builtin "collections.deque.pop") [.ref a]) Q E s:=by
 refine wpAny_call_entry kR (jF h) rY ?_ (vP _)
 unfold Builtin.«collections.deque.pop» Builtin.Deque.items
 refine wpAny_bind (wpAny_pure (wpAny_bind (wpAny_bind (wpAny_fieldsOf h rfl (wpAny_pure ?_)))))
 have e:((#[Value.none,rawInt k]++(vs++[v]).toArray).extract 2 (#[Value.none,rawInt k]++(vs++[v]).toArray).size).back?=some v:=by rw [nK];simp
 rw [e]
 refine wpAny_bind (yF h (by simp;lia) fun g hg=> ?_)
 refine wpAny_pure ⟨_,rfl,hq g ?_⟩
 rw [hg];simp
theorem aNx (hq:∀g:Obj→Obj,(g (aU [] 0)=aU [] 0)→Q (.ref s.heap.objs.size) {s with heap:=(s.heap.push (aU [] 0)).update s.heap.objs.size g}):wpAny (model prog w) A (call (.type "collections.deque") []) Q E s:=by
 refine callType_meets (Q₁:=fun o s₁=>o= .ref s.heap.objs.size∧s₁={s with heap:=s.heap.push (aU [] 0)}) (S:=fun A R s'=>s'=s∧R (.ok (.ret (.ref s.heap.objs.size))) {s with heap:=s.heap.push (aU [] 0)}) aA9 sN wB rZ qD ?_ ⟨rfl,rfl,rfl⟩ ?_
 ·refine fun prog w A R s' hs=> ?_
  refine aF fun gq hgq=> ?_
  refine cK hs fun q0_ hr=> ?_;subst q0_
  subst hgq
  have f1:isSubtype (.type "collections.deque") (.type Builtin.Deque.ty)=pure true:=xD
  have f2:isType (.type "collections.deque")=pure true:=rfl
  unfold Builtin.«collections.deque.__new__» Builtin.Deque.newArgs
  simp only [f2,f1,pure_bind,Bool.not_true,Bool.false_eq_true,if_false]
  show wpAny _ _ (Builtin.Deque.new (.type "collections.deque") #[] none>>=fun v=>ret v) _ _ _
  unfold Builtin.Deque.new
  show wpAny _ _ ((newObj (.type "collections.deque") (.fields (#[.none,rawInt 0]++ #[])) none)>>=fun v=>ret v) _ _ _
  exact wpAny_bind (wpAny_newObj_type (wpAny_pure hr) (by show 2≤_;rw [sizeLine_eq];decide))
 ·rintro o s₁ ⟨rfl,rfl⟩
  refine⟨⟨_,Heap.get?_push_size _ rfl,rfl⟩,sB _,fun A R s'=>s'={s with heap:=s.heap.push (aU [] 0)}∧∀g:Obj→Obj,(g (aU [] 0)=aU [] 0)→R (.ok (.ret .none)) {s with heap:=(s.heap.push (aU [] 0)).update s.heap.objs.size g}, ?_,rfl,fun g hg=>⟨rfl,hq g hg⟩⟩
  refine fun prog w A R s' hs=> ?_
  refine aF fun gq hgq=> ?_
  refine cK hs fun q0_ hr=> ?_;subst q0_
  subst hgq
  show wpAny _ _ (do setField (.ref s.heap.objs.size) 0 .none;Builtin.Deque.clear (.ref s.heap.objs.size);ret .none) _ _ _
  have h1:(s.heap.push (aU [] 0)).get? s.heap.objs.size=some (aU [] 0):=Heap.get?_push_size _ rfl
  refine wpAny_bind (wpAny_setField h1 rfl (by decide) (wpAny_bind ?_))
  unfold Builtin.Deque.clear Builtin.Deque.items
  have hg:Obj.mapFields (·.setIfInBounds 0 .none) (aU [] 0)=aU [] 0:=rfl
  have h2:((s.heap.push (aU [] 0)).update s.heap.objs.size (Obj.mapFields (·.setIfInBounds 0 .none))).get? s.heap.objs.size=some (aU [] 0):=by
   rw [Heap.get?_update_self _ h1 (by rw [hg];rfl),hg]
  refine wpAny_bind (wpAny_bind (wpAny_fieldsOf h2 rfl (wpAny_pure ?_)))
  exact wpAny_pure (wpAny_pure (hr _ hg))
end
section
variable {K:Params→Frag} {n:Nat} {objs:List AO} {k:Nat} {a:AV} {xs:List AV}
theorem Rel.deq {hb:Heap} {L:Addr} {fr:List Env} {ρ:List OA} {st:AS} {s:Shared} {v:Value} (R:Rel hb L fr ρ st s) (ho:st.objs[k]?=some (.deq xs)) (d:den ρ (.obj k) v):
  ∃(y:OA) (vs:List Value) (m:Int),ρ[k]?=some y∧v= .ref y.a∧y.d=none∧s.heap.get? y.a=some (aU vs m)∧All2 (den ρ) xs vs:=by
 refine aF fun gq hgq=> ?_
 refine aH (R.objs k _ ho) fun y hy r=> ?_
 refine aH d fun z hz q2_=> ?_;subst q2_
 rw [hy]at hz
 obtain rfl:=Option.some.inj hz
 refine kK r fun vs m a b c=> ?_
 subst hgq
 exact⟨y,vs,m,hy,rfl,a,b,c⟩
theorem dR (ho:objs[k]?=some (.deq xs)) (hz:xs.length≤900):DoesCall K n (.builtin "collections.deque.append") [.obj k,a] [] objs .none (objs.set k (.deq (xs++[a]))):=by
 intro x hx loc ρ vs kvs ha hk s Q E R kk
 refine aF fun gq hgq=> ?_
 cases hk
 cases ha with|cons d1 ha=>cases ha with|cons d2 ha=>
 cases ha
 refine gP (R.deq ho d1) fun y us m hy q4_ hd h1 h2=> ?_;subst q4_
 subst hgq
 refine to1 (aJe h1 (by rw [←h2.length];exact hz) fun g hg=> ?_)
 refine kk _ _ ρ (R.turn hy (.head _) ⟨us++[_],m+1,hd, ?_,h2.append (.cons d2 .nil)⟩) (Next.turn hy (.head _)) rfl
 rw [Heap.get?_update_self _ h1 (by rw [hg];rfl),hg]
theorem All2.snoc {α β:Type} {P:α→β→Prop} {l:List α} {z:α}:∀{r:List β},All2 P (l++[z]) r→∃r' w,r=r'++[w]∧All2 P l r'∧P z w:=by
 induction l with
 |nil=>intro r h;cases h with|cons p h=>cases h;exact⟨[],_,rfl,.nil,p⟩
 |cons b l ih=>intro r h;cases h with|cons p h=>obtain⟨r',w,rfl,h1,h2⟩:=ih h;exact⟨_::r',w,rfl,.cons p h1,h2⟩
theorem aD5 (ho:objs[k]?=some (.deq (xs++[a]))) (hz:xs.length≤900):DoesCall K n (.builtin "collections.deque.pop") [.obj k] [] objs a (objs.set k (.deq xs)):=by
 intro x hx loc ρ vs kvs ha hk s Q E R kk
 refine aF fun gq hgq=> ?_
 cases hk
 cases ha with|cons d1 ha=>
 cases ha
 refine gP (R.deq ho d1) fun y us m hy q4_ hd h1 h2=> ?_;subst q4_
 obtain⟨us,u,rfl,h2,h3⟩:=h2.snoc
 subst hgq
 refine to1 (aQd h1 (by rw [←h2.length];exact hz) fun g hg=> ?_)
 refine kk _ _ ρ (R.turn hy (.head _) ⟨us,m+1,hd, ?_,h2⟩) (Next.turn hy (.head _)) h3
 rw [Heap.get?_update_self _ h1 (by rw [hg];rfl),hg]
theorem hI:DoesCall K n (.type "collections.deque") [] [] objs (.obj objs.length) (objs++[.deq []]):=by
 intro x hx loc ρ vs kvs ha hk s Q E R kk
 refine aF fun gq hgq=> ?_
 cases hk
 cases ha
 subst hgq
 refine to1 (aNx fun g hg=> ?_)
 have h1:(s.heap.push (aU [] 0)).get? s.heap.objs.size=some (aU [] 0):=Heap.get?_push_size _ rfl
 have keep:∀b o,s.heap.get? b=some o→((s.heap.push (aU [] 0)).update s.heap.objs.size g).get? b=some o:=fun b o e=>by
  rw [Heap.get?_update_other _ _ (Nat.ne_of_lt (Heap.lt_size e)).symm];exact Heap.get?_push_of_some _ e
 refine kk _ _ _ (R.track (x:=⟨s.heap.objs.size,none⟩) keep (by intro a ha;rcases List.mem_cons.mp ha with rfl|ha;exact Heap.get?_none_of_le (Nat.le_refl _);cases ha) (by simp) ⟨[],0,rfl, ?_,.nil⟩) (Next.track keep (by intro a ha;rcases List.mem_cons.mp ha with rfl|ha;exact Heap.get?_none_of_le (Nat.le_refl _);cases ha)) (bV R _)
 rw [Heap.get?_update_self _ h1 (by rw [hg];rfl),hg]
end
end Mine
end
section
namespace Mine
noncomputable def aIw (q c r:AV):List (Str×AV):=[("self",.obj 0),("quoted",q),("escapedstate",.str " "),("nextchar",c),("result",r)]
noncomputable def wD (q:AV):List (Str×AV):=[("self",.obj 0),("quoted",q),("escapedstate",.str " ")]
section
variable {K:Params→Frag} (hP:Prog K) {n:Nat} {q:AV} {ln:Int} {tk:Str} {c:Nat} {io d2 d3:AO} {rest:List AO}
include hP
theorem aKe:DoesB K (n+2) sc6 (turnB.drop 1) ⟨aJ q (.chr (.fin dC) c),aE (.str "a") (.sym (some true) tk) (.isym ln)::io::d2::d3:: .deq []::rest⟩ .brk ⟨aJ q (.chr (.fin dC) c),aE (.str " ") (.sym (some true) tk) (.isym ln)::io::d2::d3:: .deq [(.chr (.fin dC) c)]::rest⟩:=
 aB (m:=20) (k:=20) (td:=[.c (.str "[]") (aE (.str "a") (.sym (some true) tk) (.isym ln)::io::d2::d3:: .deq []::rest),.c (.str "[]") (aE (.str "a") (.sym (some true) tk) (.isym ln)::io::d2::d3:: .deq []::rest),.c .none (aE (.str "a") (.sym (some true) tk) (.isym ln)::io::d2::d3:: .deq [(.chr (.fin dC) c)]::rest)]) (obs:=[DoesCode K (n+1) (.ref 663) [.obj 0] [] (aE (.str "a") (.sym (some true) tk) (.isym ln)::io::d2::d3:: .deq []::rest) (.str "[]") (aE (.str "a") (.sym (some true) tk) (.isym ln)::io::d2::d3:: .deq []::rest),DoesCode K (n+1) (.ref 663) [.obj 0] [] (aE (.str "a") (.sym (some true) tk) (.isym ln)::io::d2::d3:: .deq []::rest) (.str "[]") (aE (.str "a") (.sym (some true) tk) (.isym ln)::io::d2::d3:: .deq []::rest),DoesCall K (n+2) (.builtin "collections.deque.append") [.obj 4,(.chr (.fin dC) c)] [] (aE (.str "a") (.sym (some true) tk) (.isym ln)::io::d2::d3:: .deq []::rest) .none (aE (.str "a") (.sym (some true) tk) (.isym ln)::io::d2::d3:: .deq [(.chr (.fin dC) c)]::rest)]) hP.tab (by kernel_rfl) (aA (bF hP) (aA (bF hP) (aA (dR (k:=4) (xs:=[]) rfl (Nat.zero_le _)) all_nil)))
theorem sZ (hb:(match tk.cps.toList with|[]=>false|_=>true)=true):DoesB K (n+2) sc6 (turnB.drop 1) ⟨aJ (.bool true) (.chr (.fin dC) c),aE (.str "a") (.sym none tk) (.isym ln)::io::d2::d3:: .deq []::rest⟩ .brk ⟨aJ (.bool true) (.chr (.fin dC) c),aE (.str " ") (.sym none tk) (.isym ln)::io::d2::d3:: .deq [(.chr (.fin dC) c)]::rest⟩:=
 aB (m:=20) (k:=20) (td:=[.c (.str "[]") (aE (.str "a") (.sym none tk) (.isym ln)::io::d2::d3:: .deq []::rest),.c (.str "[]") (aE (.str "a") (.sym none tk) (.isym ln)::io::d2::d3:: .deq []::rest),.c .none (aE (.str "a") (.sym none tk) (.isym ln)::io::d2::d3:: .deq [(.chr (.fin dC) c)]::rest),.b true]) (obs:=[DoesCode K (n+1) (.ref 663) [.obj 0] [] (aE (.str "a") (.sym none tk) (.isym ln)::io::d2::d3:: .deq []::rest) (.str "[]") (aE (.str "a") (.sym none tk) (.isym ln)::io::d2::d3:: .deq []::rest),DoesCode K (n+1) (.ref 663) [.obj 0] [] (aE (.str "a") (.sym none tk) (.isym ln)::io::d2::d3:: .deq []::rest) (.str "[]") (aE (.str "a") (.sym none tk) (.isym ln)::io::d2::d3:: .deq []::rest),DoesCall K (n+2) (.builtin "collections.deque.append") [.obj 4,(.chr (.fin dC) c)] [] (aE (.str "a") (.sym none tk) (.isym ln)::io::d2::d3:: .deq []::rest) .none (aE (.str "a") (.sym none tk) (.isym ln)::io::d2::d3:: .deq [(.chr (.fin dC) c)]::rest),(match tk.cps.toList with|[]=>false|_=>true)=true]) hP.tab (by kernel_rfl) (aA (bF hP) (aA (bF hP) (aA (dR (k:=4) (xs:=[]) rfl (Nat.zero_le _)) (aA hb all_nil))))
theorem rU (hb:(match tk.cps.toList with|[]=>false|_=>true)=false):DoesB K (n+2) sc6 (turnB.drop 1) ⟨aJ (.bool true) (.chr (.fin dC) c),aE (.str "a") (.sym none tk) (.isym ln)::io::d2::d3:: .deq []::rest⟩ .brk ⟨aJ (.bool true) (.chr (.fin dC) c),aE (.str " ") (.sym none tk) (.isym ln)::io::d2::d3:: .deq [(.chr (.fin dC) c)]::rest⟩:=
 aB (m:=20) (k:=20) (td:=[.c (.str "[]") (aE (.str "a") (.sym none tk) (.isym ln)::io::d2::d3:: .deq []::rest),.c (.str "[]") (aE (.str "a") (.sym none tk) (.isym ln)::io::d2::d3:: .deq []::rest),.c .none (aE (.str "a") (.sym none tk) (.isym ln)::io::d2::d3:: .deq [(.chr (.fin dC) c)]::rest),.b false]) (obs:=[DoesCode K (n+1) (.ref 663) [.obj 0] [] (aE (.str "a") (.sym none tk) (.isym ln)::io::d2::d3:: .deq []::rest) (.str "[]") (aE (.str "a") (.sym none tk) (.isym ln)::io::d2::d3:: .deq []::rest),DoesCode K (n+1) (.ref 663) [.obj 0] [] (aE (.str "a") (.sym none tk) (.isym ln)::io::d2::d3:: .deq []::rest) (.str "[]") (aE (.str "a") (.sym none tk) (.isym ln)::io::d2::d3:: .deq []::rest),DoesCall K (n+2) (.builtin "collections.deque.append") [.obj 4,(.chr (.fin dC) c)] [] (aE (.str "a") (.sym none tk) (.isym ln)::io::d2::d3:: .deq []::rest) .none (aE (.str "a") (.sym none tk) (.isym ln)::io::d2::d3:: .deq [(.chr (.fin dC) c)]::rest),(match tk.cps.toList with|[]=>false|_=>true)=false]) hP.tab (by kernel_rfl) (aA (bF hP) (aA (bF hP) (aA (dR (k:=4) (xs:=[]) rfl (Nat.zero_le _)) (aA hb all_nil))))
theorem aDz:DoesB K (n+2) sc6 (turnB.drop 1) ⟨aJ q (.chr (.fin [32]) c),aE (.str "c") (.sym (some true) tk) (.isym ln)::rest⟩ .brk ⟨aJ q (.chr (.fin [32]) c),aE (.str " ") (.sym (some true) tk) (.isym ln)::rest⟩:=
 aB (m:=20) (k:=20) (td:=[]) (obs:=[]) hP.tab (by kernel_rfl) all_nil
theorem aKc (hl:tk.length+1≤sizeLine):DoesB K (n+2) sc6 (turnB.drop 1) ⟨aJ q (.chr (.fin dC) c),aE (.str "c") (.sym none tk) (.isym ln)::rest⟩ .next ⟨aJ q (.chr (.fin dC) c),aE (.str "c") (.sym (some true) (tk++⟨#[c]⟩)) (.isym ln)::rest⟩:=
 aB (m:=20) (k:=20) (td:=[.c (.str "[]") (aE (.str "c") (.sym none tk) (.isym ln)::rest)]) (obs:=[DoesCode K (n+1) (.ref 663) [.obj 0] [] (aE (.str "c") (.sym none tk) (.isym ln)::rest) (.str "[]") (aE (.str "c") (.sym none tk) (.isym ln)::rest),tk.length+Str.length ⟨#[c]⟩≤sizeLine]) hP.tab (by kernel_rfl) (aA (bF hP) (aA hl all_nil))
theorem aKb:DoesB K (n+2) sc6 (turnB.drop 1) ⟨aJ q (.str ""),aE (.str "c") (.sym none tk) (.isym ln)::rest⟩ .brk ⟨aJ q (.str ""),aE .none (.sym none tk) (.isym ln)::rest⟩:=
 aB (m:=20) (k:=20) (td:=[]) (obs:=[]) hP.tab (by kernel_rfl) all_nil
theorem aHq:DoesB K (n+2) sc6 (turnB.drop 1) ⟨aJ q (.chr (.fin dN) c),aE (.str "c") (.sym none tk) (.isym ln)::io::d2::d3:: .deq []::rest⟩ .brk ⟨aJ q (.chr (.fin dN) c),aE (.str " ") (.sym none tk) (.isym ln)::io::d2::d3:: .deq [(.chr (.fin dN) c)]::rest⟩:=
 aB (m:=20) (k:=20) (td:=[.c (.str "[]") (aE (.str "c") (.sym none tk) (.isym ln)::io::d2::d3:: .deq []::rest),.c .none (aE (.str "c") (.sym none tk) (.isym ln)::io::d2::d3:: .deq [(.chr (.fin dN) c)]::rest)]) (obs:=[DoesCode K (n+1) (.ref 663) [.obj 0] [] (aE (.str "c") (.sym none tk) (.isym ln)::io::d2::d3:: .deq []::rest) (.str "[]") (aE (.str "c") (.sym none tk) (.isym ln)::io::d2::d3:: .deq []::rest),DoesCall K (n+2) (.builtin "collections.deque.append") [.obj 4,(.chr (.fin dN) c)] [] (aE (.str "c") (.sym none tk) (.isym ln)::io::d2::d3:: .deq []::rest) .none (aE (.str "c") (.sym none tk) (.isym ln)::io::d2::d3:: .deq [(.chr (.fin dN) c)]::rest)]) hP.tab (by kernel_rfl) (aA (bF hP) (aA (dR (k:=4) (xs:=[]) rfl (Nat.zero_le _)) all_nil))
theorem aHs:DoesB K (n+2) sc6 (turnB.drop 1) ⟨aJ q (.chr (.fin dQ) c),aE (.str "c") (.sym none tk) (.isym ln)::io::d2::d3:: .deq []::rest⟩ .brk ⟨aJ q (.chr (.fin dQ) c),aE (.str " ") (.sym none tk) (.isym ln)::io::d2::d3:: .deq [(.chr (.fin dQ) c)]::rest⟩:=
 aB (m:=20) (k:=20) (td:=[.c (.str "[]") (aE (.str "c") (.sym none tk) (.isym ln)::io::d2::d3:: .deq []::rest),.c .none (aE (.str "c") (.sym none tk) (.isym ln)::io::d2::d3:: .deq [(.chr (.fin dQ) c)]::rest)]) (obs:=[DoesCode K (n+1) (.ref 663) [.obj 0] [] (aE (.str "c") (.sym none tk) (.isym ln)::io::d2::d3:: .deq []::rest) (.str "[]") (aE (.str "c") (.sym none tk) (.isym ln)::io::d2::d3:: .deq []::rest),DoesCall K (n+2) (.builtin "collections.deque.append") [.obj 4,(.chr (.fin dQ) c)] [] (aE (.str "c") (.sym none tk) (.isym ln)::io::d2::d3:: .deq []::rest) .none (aE (.str "c") (.sym none tk) (.isym ln)::io::d2::d3:: .deq [(.chr (.fin dQ) c)]::rest)]) hP.tab (by kernel_rfl) (aA (bF hP) (aA (dR (k:=4) (xs:=[]) rfl (Nat.zero_le _)) all_nil))
theorem aHr:DoesB K (n+2) sc6 (turnB.drop 1) ⟨aJ q (.chr (.fin dO) c),aE (.str "c") (.sym none tk) (.isym ln)::io::d2::d3:: .deq []::rest⟩ .brk ⟨aJ q (.chr (.fin dO) c),aE (.str " ") (.sym none tk) (.isym ln)::io::d2::d3:: .deq [(.chr (.fin dO) c)]::rest⟩:=
 aB (m:=20) (k:=20) (td:=[.c (.str "[]") (aE (.str "c") (.sym none tk) (.isym ln)::io::d2::d3:: .deq []::rest),.c .none (aE (.str "c") (.sym none tk) (.isym ln)::io::d2::d3:: .deq [(.chr (.fin dO) c)]::rest)]) (obs:=[DoesCode K (n+1) (.ref 663) [.obj 0] [] (aE (.str "c") (.sym none tk) (.isym ln)::io::d2::d3:: .deq []::rest) (.str "[]") (aE (.str "c") (.sym none tk) (.isym ln)::io::d2::d3:: .deq []::rest),DoesCall K (n+2) (.builtin "collections.deque.append") [.obj 4,(.chr (.fin dO) c)] [] (aE (.str "c") (.sym none tk) (.isym ln)::io::d2::d3:: .deq []::rest) .none (aE (.str "c") (.sym none tk) (.isym ln)::io::d2::d3:: .deq [(.chr (.fin dO) c)]::rest)]) hP.tab (by kernel_rfl) (aA (bF hP) (aA (dR (k:=4) (xs:=[]) rfl (Nat.zero_le _)) all_nil))
theorem aDy:DoesB K (n+2) sc6 (turnB.drop 1) ⟨aJ q (.chr (.fin [39]) c),aE (.str "c") (.sym none tk) (.isym ln)::io::d2::d3:: .deq []::rest⟩ .brk ⟨aJ q (.chr (.fin [39]) c),aE (.str " ") (.sym none tk) (.isym ln)::io::d2::d3:: .deq [(.chr (.fin [39]) c)]::rest⟩:=
 aB (m:=20) (k:=20) (td:=[.c (.str "[]") (aE (.str "c") (.sym none tk) (.isym ln)::io::d2::d3:: .deq []::rest),.c .none (aE (.str "c") (.sym none tk) (.isym ln)::io::d2::d3:: .deq [(.chr (.fin [39]) c)]::rest)]) (obs:=[DoesCode K (n+1) (.ref 663) [.obj 0] [] (aE (.str "c") (.sym none tk) (.isym ln)::io::d2::d3:: .deq []::rest) (.str "[]") (aE (.str "c") (.sym none tk) (.isym ln)::io::d2::d3:: .deq []::rest),DoesCall K (n+2) (.builtin "collections.deque.append") [.obj 4,(.chr (.fin [39]) c)] [] (aE (.str "c") (.sym none tk) (.isym ln)::io::d2::d3:: .deq []::rest) .none (aE (.str "c") (.sym none tk) (.isym ln)::io::d2::d3:: .deq [(.chr (.fin [39]) c)]::rest)]) hP.tab (by kernel_rfl) (aA (bF hP) (aA (dR (k:=4) (xs:=[]) rfl (Nat.zero_le _)) all_nil))
theorem aEu {S T L:AV} {b:Str} {p:Nat} {k:Cls} (h:b.cps[p]?=some c) (hk:k.has c):DoesB K (n+2) sc6 (turnB.take 1) ⟨wD q,aG S T L::ioO b p::rest⟩ .next ⟨aJ q (.chr k c),aG S T L::ioO b (p+1:Nat)::rest⟩:=
 aB (m:=20) (k:=20) (td:=[.c (.str "") (aG S T L::ioO b p::rest),.c (.chr k c) (aG S T L::ioO b (p+1:Nat)::rest)]) (obs:=[DoesCode K (n+1) (.ref 663) [.obj 0] [] (aG S T L::ioO b p::rest) (.str "") (aG S T L::ioO b p::rest),DoesCall K (n+2) (.ref 543) [.obj 1,.int 1] [] (aG S T L::ioO b p::rest) (.chr k c) (aG S T L::ioO b (p+1:Nat)::rest)]) hP.tab (by kernel_rfl) (aA (cV hP) (aA (fF hP h hk) all_nil))
theorem tS {S T L:AV} {b:Str} {p:Nat} (h:b.length≤p):DoesB K (n+2) sc6 (turnB.take 1) ⟨wD q,aG S T L::ioO b p::rest⟩ .next ⟨aJ q (.str ""),aG S T L::ioO b p::rest⟩:=
 aB (m:=20) (k:=20) (td:=[.c (.str "") (aG S T L::ioO b p::rest),.c (.str "") (aG S T L::ioO b p::rest)]) (obs:=[DoesCode K (n+1) (.ref 663) [.obj 0] [] (aG S T L::ioO b p::rest) (.str "") (aG S T L::ioO b p::rest),DoesCall K (n+2) (.ref 543) [.obj 1,.int 1] [] (aG S T L::ioO b p::rest) (.str "") (aG S T L::ioO b p::rest)]) hP.tab (by kernel_rfl) (aA (cV hP) (aA (fH hP h) all_nil))
theorem aIp {S T L:AV} {b:Str} {p:Nat} {c0:AV} {k:Cls} (h:b.cps[p]?=some c) (hk:k.has c):DoesB K (n+2) sc6 (turnB.take 1) ⟨aJ q c0,aG S T L::ioO b p::rest⟩ .next ⟨aJ q (.chr k c),aG S T L::ioO b (p+1:Nat)::rest⟩:=
 aB (m:=20) (k:=20) (td:=[.c (.str "") (aG S T L::ioO b p::rest),.c (.chr k c) (aG S T L::ioO b (p+1:Nat)::rest)]) (obs:=[DoesCode K (n+1) (.ref 663) [.obj 0] [] (aG S T L::ioO b p::rest) (.str "") (aG S T L::ioO b p::rest),DoesCall K (n+2) (.ref 543) [.obj 1,.int 1] [] (aG S T L::ioO b p::rest) (.chr k c) (aG S T L::ioO b (p+1:Nat)::rest)]) hP.tab (by kernel_rfl) (aA (cV hP) (aA (fF hP h hk) all_nil))
theorem aIq {S T L:AV} {b:Str} {p:Nat} {c0:AV} (h:b.length≤p):DoesB K (n+2) sc6 (turnB.take 1) ⟨aJ q c0,aG S T L::ioO b p::rest⟩ .next ⟨aJ q (.str ""),aG S T L::ioO b p::rest⟩:=
 aB (m:=20) (k:=20) (td:=[.c (.str "") (aG S T L::ioO b p::rest),.c (.str "") (aG S T L::ioO b p::rest)]) (obs:=[DoesCode K (n+1) (.ref 663) [.obj 0] [] (aG S T L::ioO b p::rest) (.str "") (aG S T L::ioO b p::rest),DoesCall K (n+2) (.ref 543) [.obj 1,.int 1] [] (aG S T L::ioO b p::rest) (.str "") (aG S T L::ioO b p::rest)]) hP.tab (by kernel_rfl) (aA (cV hP) (aA (fH hP h) all_nil))
theorem aEs {S T L:AV} {b:Str} {p:Nat} {k:Cls} (h:b.cps[p]?=some c) (hk:k.has c):DoesB K (n+2) sc6 (turnB.take 1) ⟨wD q,aE S T L::ioO b p::d2::d3:: .deq []::rest⟩ .next ⟨aJ q (.chr k c),aE S T L::ioO b (p+1:Nat)::d2::d3:: .deq []::rest⟩:=
 aB (m:=20) (k:=20) (td:=[.c (.str "[]") (aE S T L::ioO b p::d2::d3:: .deq []::rest),.c (.chr k c) (aE S T L::ioO b (p+1:Nat)::d2::d3:: .deq []::rest)]) (obs:=[DoesCode K (n+1) (.ref 663) [.obj 0] [] (aE S T L::ioO b p::d2::d3:: .deq []::rest) (.str "[]") (aE S T L::ioO b p::d2::d3:: .deq []::rest),DoesCall K (n+2) (.ref 543) [.obj 1,.int 1] [] (aE S T L::ioO b p::d2::d3:: .deq []::rest) (.chr k c) (aE S T L::ioO b (p+1:Nat)::d2::d3:: .deq []::rest)]) hP.tab (by kernel_rfl) (aA (bF hP) (aA (fF hP h hk) all_nil))
theorem aEt {S T L:AV} {b:Str} {p:Nat} (h:b.length≤p):DoesB K (n+2) sc6 (turnB.take 1) ⟨wD q,aE S T L::ioO b p::d2::d3:: .deq []::rest⟩ .next ⟨aJ q (.str ""),aE S T L::ioO b p::d2::d3:: .deq []::rest⟩:=
 aB (m:=20) (k:=20) (td:=[.c (.str "[]") (aE S T L::ioO b p::d2::d3:: .deq []::rest),.c (.str "") (aE S T L::ioO b p::d2::d3:: .deq []::rest)]) (obs:=[DoesCode K (n+1) (.ref 663) [.obj 0] [] (aE S T L::ioO b p::d2::d3:: .deq []::rest) (.str "[]") (aE S T L::ioO b p::d2::d3:: .deq []::rest),DoesCall K (n+2) (.ref 543) [.obj 1,.int 1] [] (aE S T L::ioO b p::d2::d3:: .deq []::rest) (.str "") (aE S T L::ioO b p::d2::d3:: .deq []::rest)]) hP.tab (by kernel_rfl) (aA (bF hP) (aA (fH hP h) all_nil))
theorem aBw {S T L a:AV}:DoesB K (n+2) sc6 (turnB.take 1) ⟨wD q,aE S T L::io::d2::d3:: .deq [a]::rest⟩ .next ⟨aJ q a,aE S T L::io::d2::d3:: .deq []::rest⟩:=
 aB (m:=20) (k:=20) (td:=[.c (.str "[]") (aE S T L::io::d2::d3:: .deq [a]::rest),.c a (aE S T L::io::d2::d3:: .deq []::rest)]) (obs:=[DoesCode K (n+1) (.ref 663) [.obj 0] [] (aE S T L::io::d2::d3:: .deq [a]::rest) (.str "[]") (aE S T L::io::d2::d3:: .deq [a]::rest),DoesCall K (n+2) (.builtin "collections.deque.pop") [.obj 4] [] (aE S T L::io::d2::d3:: .deq [a]::rest) a (aE S T L::io::d2::d3:: .deq []::rest)]) hP.tab (by kernel_rfl) (aA (bF hP) (aA (aD5 (k:=4) (xs:=[]) rfl (Nat.zero_le _)) all_nil))
theorem aIn {S T L:AV} {b:Str} {p:Nat} {c0:AV} {k:Cls} (h:b.cps[p]?=some c) (hk:k.has c):DoesB K (n+2) sc6 (turnB.take 1) ⟨aJ q c0,aE S T L::ioO b p::d2::d3:: .deq []::rest⟩ .next ⟨aJ q (.chr k c),aE S T L::ioO b (p+1:Nat)::d2::d3:: .deq []::rest⟩:=
 aB (m:=20) (k:=20) (td:=[.c (.str "[]") (aE S T L::ioO b p::d2::d3:: .deq []::rest),.c (.chr k c) (aE S T L::ioO b (p+1:Nat)::d2::d3:: .deq []::rest)]) (obs:=[DoesCode K (n+1) (.ref 663) [.obj 0] [] (aE S T L::ioO b p::d2::d3:: .deq []::rest) (.str "[]") (aE S T L::ioO b p::d2::d3:: .deq []::rest),DoesCall K (n+2) (.ref 543) [.obj 1,.int 1] [] (aE S T L::ioO b p::d2::d3:: .deq []::rest) (.chr k c) (aE S T L::ioO b (p+1:Nat)::d2::d3:: .deq []::rest)]) hP.tab (by kernel_rfl) (aA (bF hP) (aA (fF hP h hk) all_nil))
theorem aIo {S T L:AV} {b:Str} {p:Nat} {c0:AV} (h:b.length≤p):DoesB K (n+2) sc6 (turnB.take 1) ⟨aJ q c0,aE S T L::ioO b p::d2::d3:: .deq []::rest⟩ .next ⟨aJ q (.str ""),aE S T L::ioO b p::d2::d3:: .deq []::rest⟩:=
 aB (m:=20) (k:=20) (td:=[.c (.str "[]") (aE S T L::ioO b p::d2::d3:: .deq []::rest),.c (.str "") (aE S T L::ioO b p::d2::d3:: .deq []::rest)]) (obs:=[DoesCode K (n+1) (.ref 663) [.obj 0] [] (aE S T L::ioO b p::d2::d3:: .deq []::rest) (.str "[]") (aE S T L::ioO b p::d2::d3:: .deq []::rest),DoesCall K (n+2) (.ref 543) [.obj 1,.int 1] [] (aE S T L::ioO b p::d2::d3:: .deq []::rest) (.str "") (aE S T L::ioO b p::d2::d3:: .deq []::rest)]) hP.tab (by kernel_rfl) (aA (bF hP) (aA (fH hP h) all_nil))
theorem aEr {S T L a:AV} {c0:AV}:DoesB K (n+2) sc6 (turnB.take 1) ⟨aJ q c0,aE S T L::io::d2::d3:: .deq [a]::rest⟩ .next ⟨aJ q a,aE S T L::io::d2::d3:: .deq []::rest⟩:=
 aB (m:=20) (k:=20) (td:=[.c (.str "[]") (aE S T L::io::d2::d3:: .deq [a]::rest),.c a (aE S T L::io::d2::d3:: .deq []::rest)]) (obs:=[DoesCode K (n+1) (.ref 663) [.obj 0] [] (aE S T L::io::d2::d3:: .deq [a]::rest) (.str "[]") (aE S T L::io::d2::d3:: .deq [a]::rest),DoesCall K (n+2) (.builtin "collections.deque.pop") [.obj 4] [] (aE S T L::io::d2::d3:: .deq [a]::rest) a (aE S T L::io::d2::d3:: .deq []::rest)]) hP.tab (by kernel_rfl) (aA (bF hP) (aA (aD5 (k:=4) (xs:=[]) rfl (Nat.zero_le _)) all_nil))
theorem aIf {S c0:AV} (hb:sEq tk ""=false):DoesB K (n+2) sc6 kT ⟨aJ (.bool false) c0,aG S (.sym (some true) tk) (.isym ln)::rest⟩ (.ret (.sym (some true) tk)) ⟨aIw (.bool false) c0 (.sym (some true) tk),aG S (.str "") (.isym ln)::rest⟩:=
 aB (m:=20) (k:=20) (td:=[.b false]) (obs:=[sEq tk ""=false]) hP.tab (by kernel_rfl) (aA hb all_nil)
theorem zJ {S c0:AV}:DoesB K (n+2) sc6 kT ⟨aJ (.bool true) c0,aG S (.sym none tk) (.isym ln)::rest⟩ (.ret (.sym none tk)) ⟨aIw (.bool true) c0 (.sym none tk),aG S (.str "") (.isym ln)::rest⟩:=
 aB (m:=20) (k:=20) (td:=[]) (obs:=[]) hP.tab (by kernel_rfl) all_nil
theorem tH {S c0:AV}:DoesB K (n+2) sc6 kT ⟨aJ (.bool false) c0,aG S (.str "") (.isym ln)::rest⟩ (.ret .none) ⟨aIw (.bool false) c0 .none,aG S (.str "") (.isym ln)::rest⟩:=
 aB (m:=20) (k:=20) (td:=[]) (obs:=[]) hP.tab (by kernel_rfl) all_nil
theorem aIe {S c0:AV} (hb:sEq tk ""=false):DoesB K (n+2) sc6 kT ⟨aJ (.bool false) c0,aE S (.sym (some true) tk) (.isym ln)::rest⟩ (.ret (.sym (some true) tk)) ⟨aIw (.bool false) c0 (.sym (some true) tk),aE S (.str "") (.isym ln)::rest⟩:=
 aB (m:=20) (k:=20) (td:=[.b false]) (obs:=[sEq tk ""=false]) hP.tab (by kernel_rfl) (aA hb all_nil)
theorem zI {S c0:AV}:DoesB K (n+2) sc6 kT ⟨aJ (.bool true) c0,aE S (.sym none tk) (.isym ln)::rest⟩ (.ret (.sym none tk)) ⟨aIw (.bool true) c0 (.sym none tk),aE S (.str "") (.isym ln)::rest⟩:=
 aB (m:=20) (k:=20) (td:=[]) (obs:=[]) hP.tab (by kernel_rfl) all_nil
theorem tF {S c0:AV}:DoesB K (n+2) sc6 kT ⟨aJ (.bool false) c0,aE S (.str "") (.isym ln)::rest⟩ (.ret .none) ⟨aIw (.bool false) c0 .none,aE S (.str "") (.isym ln)::rest⟩:=
 aB (m:=20) (k:=20) (td:=[]) (obs:=[]) hP.tab (by kernel_rfl) all_nil
end
end Mine
end
section
namespace Mine
noncomputable def AVle (a b:AV):Prop:=∀ρ v,den ρ a v→den ρ b v
theorem AVle.refl (a:AV):AVle a a:=fun zz zz h=>h
theorem AVle.trans {a b c:AV} (h:AVle a b) (k:AVle b c):AVle a c:=fun ρ v d=>k ρ v (h ρ v d)
theorem avle_chr {k:Cls} {c:Nat}:AVle (.chr k c) (.sym (some true) ⟨#[c]⟩):=fun ρ v d=>by
 obtain⟨⟨t,rfl⟩,_⟩:=d
 exact⟨⟨t,rfl⟩,by show 1≤sizeLine;rw [sizeLine_eq];decide,fun zz=>by simp,fun h=>by cases h⟩
theorem dU {e:Option Bool} {y:Str}:AVle (.sym e y) (.sym none y):=fun ρ v d=>⟨d.1,d.2.1,(fun h=>by cases h),fun h=>by cases h⟩
theorem vM {y:Str}:AVle (.str y) (.sym none y):=fun ρ v d=>⟨d.1,d.2,(fun h=>by cases h),fun h=>by cases h⟩
theorem jC {c:Nat} {y:Str} (h:y=⟨#[c]⟩) {d:Nat}:AVle (.chr (.fin [c]) d) (.str y):=fun ρ v e=>by
 obtain⟨⟨t,rfl⟩,hc⟩:=e
 have:d=c:=by simpa [Cls.has]using hc
 subst this
 subst h
 exact⟨⟨t,rfl⟩,by show 1≤sizeLine;rw [sizeLine_eq];decide⟩
theorem vN {i:Int}:AVle (.int i) (.isym i):=fun ρ v d=>d
theorem mC {y:Str} (h:y.cps.toList≠ []):AVle (.sym none y) (.sym (some true) y):=fun ρ v d=>⟨d.1,d.2.1,fun zz=>h,fun h=>by cases h⟩
theorem aM6 {k k':Cls} {c:Nat} (h:k'.has c):AVle (.chr k c) (.chr k' c):=fun ρ v d=>⟨d.1,h⟩
noncomputable abbrev FLe (l l':List (Str×AV)):Prop:=All2 (fun a b=>a.1=b.1∧AVle a.2 b.2) l l'
theorem FLe.refl:∀l:List (Str×AV),FLe l l
 |[]=>.nil
 |_::r=>.cons ⟨rfl,.refl _⟩ (FLe.refl r)
theorem FLe.frel {ρ:List OA} {l l':List (Str×AV)} (h:FLe l l'):∀{es:List DictEntry},FRel ρ l es→FRel ρ l' es:=by
 induction h with
 |nil=>intro es h;exact h
 |cons p h ih=>
  intro es r
  cases r with
  |cons q r=>exact .cons ⟨by rw [←p.1];exact q.1,p.2 _ _ q.2⟩ (ih r)
theorem FLe.look {l l':List (Str×AV)} (h:FLe l l') (x:Str):match look x l with
  |some a=>∃b,Mine.look x l'=some b∧AVle a b
  |none=>Mine.look x l'=none:=by
 induction h with
 |nil=>rfl
 | @cons p q l l' hp h ih=>
  obtain⟨n,a⟩:=p
  obtain⟨m,b⟩:=q
  refine cK hp fun q0_ hab=> ?_;subst q0_
  unfold Mine.look
  simp only
  cases sEq n x with
  |true=>exact⟨b,rfl,hab⟩
  |false=>exact ih
noncomputable def AOle (o o':AO):Prop:=∀ρ h x,ORel ρ h x o→ORel ρ h x o'
theorem AOle.refl (o:AO):AOle o o:=fun zz zz zz h=>h
theorem qH {C:Addr} {l l':List (Str×AV)} (h:FLe l l'):AOle (.inst C l) (.inst C l'):=fun ρ hh x r=>by
 refine yT r fun dx es n a b c d=> ?_
 exact⟨dx,es,n,a,b,c,h.frel d⟩
theorem aH6 {ρ:List OA} {l l':List AV} (h:All2 AVle l l'):∀{vs:List Value},All2 (den ρ) l vs→All2 (den ρ) l' vs:=by
 induction h with
 |nil=>intro vs h;exact h
 |cons p h ih=>intro vs r;cases r with|cons q r=>exact .cons (p _ _ q) (ih r)
theorem gN {l l':List AV} (h:All2 AVle l l'):AOle (.list l) (.list l'):=fun ρ hh x r=>by
 refine kK r fun vs n a b c=> ?_
 exact⟨vs,n,a,b,aH6 h c⟩
theorem bG {α:Type} {P:α→α→Prop} (h:∀a,P a a):∀l:List α,All2 P l l
 |[]=>.nil
 |a::r=>.cons (h a) (bG h r)
theorem All2.get {α β:Type} {P:α→β→Prop} {l:List α} {r:List β} (h:All2 P l r):∀{k:Nat} {b:β},r[k]?=some b→∃a,l[k]?=some a∧P a b:=by
 induction h with
 |nil=>intro k b e;simp at e
 |cons p h ih=>
  intro k b e
  cases k with
  |zero=>simp only [List.getElem?_cons_zero,Option.some.injEq]at e;subst e;exact⟨_,rfl,p⟩
  |succ k=>rw [List.getElem?_cons_succ]at e⊢;exact ih e
structure StLe (st st':AS):Prop where
 loc:FLe st.loc st'.loc
 objs:All2 AOle st.objs st'.objs
theorem StLe.refl (st:AS):StLe st st:=⟨.refl _,bG AOle.refl _⟩
theorem Rel.weak {hb:Heap} {L:Addr} {fr:List Env} {ρ:List OA} {st st':AS} {s:Shared} (R:Rel hb L fr ρ st s) (h:StLe st st'):Rel hb L fr ρ st' s:=by
 refine aH (R.loc) fun m hn hl=> ?_
 refine⟨R.base,⟨m,hn,fun y b e=> ?_⟩,R.above,R.len.trans h.objs.length,fun k o e=> ?_,R.apart,R.new,R.frs,R.tk⟩
 ·have h2:=h.loc.look y
  cases q:Mine.look y st.loc with
  |none=>rw [q]at h2;simp only at h2;rw [h2]at e;cases e
  |some a=>
   rw [q]at h2
   refine aH h2 fun b' e' hab=> ?_
   rw [e]at e'
   obtain rfl:=Option.some.inj e'
   refine aH (hl y a q) fun v e1 d=> ?_
   exact⟨v,e1,hab _ _ d⟩
 ·refine aH (h.objs.get e) fun o' e' hle=> ?_
  refine aH (R.objs k o' e') fun x hx r=> ?_
  exact⟨x,hx,hle _ _ _ r⟩
section
variable {K:Params→Frag} {n:Nat} {sc:Scope} {st st₁ st₂ st₃:AS} {f g:AFlow} {l:List Stmt}
theorem DoesB.pre (h:DoesB K n sc l st₁ f st₂) (k:StLe st st₁):DoesB K n sc l st f st₂:=fun x hx ρ s Q E R kk=>h x hx ρ s Q E (R.weak k) kk
theorem DoesB.post (h:DoesB K n sc l st f st₁) (k:StLe st₁ st₂):DoesB K n sc l st f st₂:=fun x hx ρ s Q E R kk=>h x hx ρ s Q E R fun a s' ρ' R' N' d=>kk a s' ρ' (R'.weak k) N' d
theorem DoesB.ret {a b:AV} (h:DoesB K n sc l st (.ret a) st₁) (k:AVle a b):DoesB K n sc l st (.ret b) st₁:=fun x hx ρ s Q E R kk=>h x hx ρ s Q E R fun v s' ρ' R' N' d=>kk v s' ρ' R' N' (by obtain⟨u,e,d⟩:=d;exact⟨u,e,k _ _ d⟩)
theorem DoesW.pre {t:Expr} {b e:List Stmt} (h:DoesW K n sc t b e st₁ f st₂) (k:StLe st st₁):DoesW K n sc t b e st f st₂:=fun x hx ρ s Q E R kk=>h x hx ρ s Q E (R.weak k) kk
theorem DoesCall.post {u:Value} {args:List AV} {kws:List (Str×AV)} {objs objs₁ objs₂:List AO} {a b:AV} (h:DoesCall K n u args kws objs a objs₁) (hk:AVle a b) (ho:All2 AOle objs₁ objs₂):DoesCall K n u args kws objs b objs₂:=
 fun x hx loc ρ vs kvs ha hkw s Q E R kk=>h x hx loc ρ vs kvs ha hkw s Q E R fun v s' ρ' R' N' d=>kk v s' ρ' (R'.weak ⟨.refl _,ho⟩) N' (hk _ _ d)
theorem DoesCall.pre {u:Value} {args args':List AV} {kws:List (Str×AV)} {objs objs₁ objs₂:List AO} {a:AV} (h:DoesCall K n u args' kws objs₁ a objs₂) (hk:All2 AVle args args') (ho:All2 AOle objs objs₁):DoesCall K n u args kws objs a objs₂:=
 fun x hx loc ρ vs kvs ha hkw s Q E R kk=>h x hx loc ρ vs kvs (aH6 hk ha) hkw s Q E (R.weak ⟨.refl _,ho⟩) kk
end
noncomputable def aSt (e:Expr):List Expr:=match e with
 | .BinOp l _ r _=>[l,r]
 | .BoolOp _ l _=>l
 | .Compare l _ rs _=>l::rs
 | .Call f a _ _=>f::a
 | .Attribute o _ _=>[o]
 | .Subscript o i _=>[o,i]
 | .Slice a b c _=>a.toList++b.toList++c.toList
 | .ListComp e gs _ _=>e::gs.flatMap fun g=>g.iter::g.ifs
 | .IfExp c a b _=>[c,a,b]
 | .Tuple l _ _=>l
 | .List l _=>l
 |_=>[]
noncomputable def aRf (l:List Expr) (n:Nat):Expr:=match l,n with
 |[],_=>default
 |e::_,0=>e
 |_::r,n+1=>aRf r n
noncomputable def kE (n:Nat) (e:Expr):Expr:=aRf (aSt e) n
noncomputable def stE (s:Stmt):Expr:=match s with
 | .Assign _ e _=>e
 | .AugAssign _ _ e _=>e
 | .Return o _=>o.getD default
 | .Expr e _=>e
 | .If e _ _ _=>e
 | .While e _ _ _=>e
 | .For _ e _ _ _=>e
 |_=>default
noncomputable def orW (s:Stmt):List Stmt:=match s with| .If _ _ o _=>o|_=>[]
noncomputable def aDf:Stmt:=aC (aO (aC shB 6)) 2
noncomputable def aAv:Expr:=stE aDf
noncomputable def aRd:Pos:=match aDf with| .While _ _ _ p=>p|_=>⟨0,0,0,0⟩
theorem aHb:aDf= .While aAv turnB [] aRd:=by kernel_rfl
theorem aO4:aO (aC shB 6)=(aO (aC shB 6)).take 2++(.While aAv turnB [] aRd::kT):=by rw [←aHb];kernel_rfl
noncomputable def Rd (K:Params→Frag) (n:Nat) (st:AS) (v:AV) (objs':List AO):Prop:=∃st₁ loc',DoesW K n sc6 aAv turnB [] st .next st₁∧DoesB K n sc6 kT st₁ (.ret v) ⟨loc',objs'⟩
section
variable {K:Params→Frag} (hP:Prog K) {n:Nat} {st st₁ st₂ st₃:AS} {g:AFlow} {v:AV} {objs':List AO} {loc':List (Str×AV)}
theorem Rd.pre (h:Rd K n st₁ v objs') (k:StLe st st₁):Rd K n st v objs':=by
 refine fL h fun s l h1 h2=> ?_
 exact⟨s,l,h1.pre k,h2⟩
include hP
theorem rH:cW K n sc6 aAv st true st:=fun x hx ρ=>(jJ hP.tab hx 3).2 ρ aAv st [] true st [] [] (by kernel_rfl) all_nil
theorem aFy:turnB=turnB.take 1++turnB.drop 1:=(List.take_append_drop 1 turnB).symm
theorem Rd.turn (h1:DoesB K n sc6 (turnB.take 1) st .next st₁) (h2:DoesB K n sc6 (turnB.drop 1) st₁ g st₂) (hg:zV g=true) (h:Rd K n st₂ v objs'):Rd K n st v objs':=by
 refine fL h fun s l h3 h4=> ?_
 refine⟨s,l,nL (rH hP) ?_ hg h3,h4⟩
 rw [aFy hP]
 exact bP h1 h2
theorem Rd.brk (h1:DoesB K n sc6 (turnB.take 1) st .next st₁) (h2:DoesB K n sc6 (turnB.drop 1) st₁ .brk st₂) (h:DoesB K n sc6 kT st₂ (.ret v) ⟨loc',objs'⟩):Rd K n st v objs':=by
 refine⟨st₂,loc',aJf (rH hP) ?_,h⟩
 rw [aFy hP]
 exact bP h1 h2
theorem eR {objs:List AO} (h:Rd K n ⟨wD (.bool false),objs⟩ v objs'):DoesCall K (n+1) (.ref 700) [.obj 0] [] objs v objs':=by
 refine fL h fun st₁ loc' h1 h2=> ?_
 refine bZ hP.f700.fn (hb1 hP.b700) (by kernel_rfl) (bI (by kernel_rfl)) (fl:=.ret v) (loc':=loc') ?_ rfl
 rw [aO4]
 refine bP (st₁:=⟨wD (.bool false),objs⟩) ?_ (bD (eI h1) h2)
 exact aB (m:=20) (k:=20) (td:=[]) (obs:=[]) hP.tab (by kernel_rfl) all_nil
end
end Mine
end
section
namespace Mine
theorem ifE {α:Type} {p:Prop} {d:Decidable p} {a b x:α} (h:(@ite α p d a b)=x):(p∧a=x)∨(¬p∧b=x):=by
 by_cases q:p
 ·exact .inl ⟨q,by rw [←h,if_pos q]⟩
 ·exact .inr ⟨q,by rw [←h,if_neg q]⟩
theorem pV {α:Type _} {x:α} {p:Prop} (h:none=some x):p:=nomatch h
theorem wE {α β γ:Type} {a a':α} {b b':β} {c c':γ} (P:α→β→γ→Prop) (h:some (a,b,c)=some (a',b',c')) (k:P a b c):P a' b' c':=by cases h;exact k
theorem hV {c d:Nat} (q:c=d):(Cls.fin [d]).has c:=by subst q;exact .head _
inductive Md where
 |sp|a|q|d|c
noncomputable def bX (c:Nat):Bool:=mF c dN||mF c dQ||mF c dO
noncomputable def uL (c:Nat):Bool:=mF c dC
noncomputable def bW:Md→List Nat→Bool→List Nat→Option (Option (List Nat)×Bool×List Nat)
 | .sp,tk,qd,[]=>some (none,true,[])
 | .sp,tk,qd,c::r=>if c=32 then bW .sp tk qd r else if bX c||uL c then bW .a [c] qd r else if c=39 then bW .q tk qd r else none
 | .a,tk,qd,[]=>some (some tk,true,[])
 | .a,tk,qd,c::r=>if c=32 then some (some tk,false,r)else if bX c||uL c then bW .a (tk++[c]) qd r else if c=39 then bW .q tk qd r else if c=34 then bW .d tk qd r else none
 | .q,tk,qd,[]=>none
 | .q,tk,qd,c::r=>if c=39 then bW .a tk true r else bW .q (tk++[c]) true r
 | .d,tk,qd,[]=>none
 | .d,tk,qd,c::r=>if c=34 then bW .a tk true r else if c=39 then bW .d (tk++[c]) true r else none
 | .c,_,_,_=>none
noncomputable def bT:Md→List Nat→Bool→List Nat→Option (Option (List Nat)×Bool×List Nat)
 | .sp,tk,qd,[]=>some (none,true,[])
 | .sp,tk,qd,c::r=>if c=32 then bT .sp tk qd r else if bX c then bT .a [c] qd r else if uL c then bT .c [c] qd r else if c=39 then bT .q tk qd r else none
 | .a,tk,qd,[]=>some (some tk,true,[])
 | .a,tk,qd,c::r=>if c=32 then some (some tk,false,r)else if bX c then bT .a (tk++[c]) qd r else if uL c then some (some tk,false,c::r)else if c=39 then bT .q tk qd r else if c=34 then bT .d tk qd r else none
 | .q,tk,qd,[]=>none
 | .q,tk,qd,c::r=>if c=39 then bT .a tk true r else bT .q (tk++[c]) true r
 | .d,tk,qd,[]=>none
 | .d,tk,qd,c::r=>if c=34 then bT .a tk true r else if c=39 then bT .d (tk++[c]) true r else none
 | .c,tk,qd,[]=>some (some tk,true,[])
 | .c,tk,qd,c::r=>if c=32 then some (some tk,false,r)else if uL c then bT .c (tk++[c]) qd r else if bX c||c==39 then some (some tk,false,c::r)else none
noncomputable def mkS (l:List Nat):Str:=⟨l.toArray⟩
theorem aBy (l:List Nat) (c:Nat):mkS l++⟨#[c]⟩=mkS (l++[c]):=by
 refine gG ?_
 show((mkS l).cps++ #[c]).toList=_
 simp [mkS]
theorem aK (l:List Nat):(mkS l).length=l.length:=by show l.toArray.size=_;simp
theorem aBz (l:List Nat):(mkS l).cps.toList=l:=rfl
noncomputable def rV:Md→AV
 | .sp=>.str " "
 | .a=>.str "a"
 | .q=>.str "'"
 | .d=>.str "\""
 | .c=>.str "c"
noncomputable def gC:Md→List Nat→AV
 | .sp,_=>.str ""
 |_,tk=>.sym none (mkS tk)
noncomputable def dK:Option (List Nat)→AV
 |none=>.none
 |some tk=>.sym none (mkS tk)
noncomputable def Inv:Md→List Nat→Bool→Prop
 | .sp,tk,qd=>tk=[]∧qd=false
 | .a,tk,qd=>tk≠ []∨qd=true
 | .c,tk,qd=>tk≠ []
 |_,_,_=>True
noncomputable def mY (qd:Bool) (loc:List (Str×AV)):Prop:=loc=wD (.bool qd)∨∃c0,loc=aJ (.bool qd) c0
theorem aNp {com words punct:Str} {more:List (Str×AV)} {S T L S' T':AV} (hS:AVle S S') (hT:AVle T T'):AOle (aCa com words punct more S T L) (aCa com words punct more S' T' L):=by
 refine qH (All2.append ?_ (FLe.refl _))
 exact .cons ⟨rfl,.refl _⟩ (.cons ⟨rfl,.refl _⟩ (.cons ⟨rfl,.refl _⟩ (.cons ⟨rfl,.refl _⟩ (.cons ⟨rfl,.refl _⟩ (.cons ⟨rfl,.refl _⟩ (.cons ⟨rfl,.refl _⟩ (.cons ⟨rfl,.refl _⟩ (.cons ⟨rfl,.refl _⟩ (.cons ⟨rfl,.refl _⟩ (.cons ⟨rfl,.refl _⟩
  (.cons ⟨rfl,hS⟩ (.cons ⟨rfl,.refl _⟩ (.cons ⟨rfl,.refl _⟩ (.cons ⟨rfl,.refl _⟩ (.cons ⟨rfl,hT⟩ (.cons ⟨rfl,.refl _⟩ (.cons ⟨rfl,.refl _⟩ (.cons ⟨rfl,.refl _⟩ .nil))))))))))))))))))
theorem bQ {com words punct:Str} {more:List (Str×AV)} {loc:List (Str×AV)} {S T L S' T':AV} {rest:List AO} (hS:AVle S S') (hT:AVle T T'):StLe ⟨loc,aCa com words punct more S T L::rest⟩ ⟨loc,aCa com words punct more S' T' L::rest⟩:=
 ⟨.refl _,.cons (aNp hS hT) (bG AOle.refl _)⟩
theorem gV {c:Nat} (h:bX c=true):c∈dN∨c∈dQ∨c∈dO:=by
 simp only [bX,Bool.or_eq_true,memB_iff]at h
 rcases h with(h|h)|h;exact .inl h;exact .inr (.inl h);exact .inr (.inr h)
theorem kB {l:Str} {p c:Nat} {r:List Nat} (h:l.cps.toList.drop p=c::r):l.cps[p]?=some c∧l.cps.toList.drop (p+1)=r:=by
 constructor
 ·have:(l.cps.toList.drop p)[0]?=some c:=by rw [h];rfl
  rw [List.getElem?_drop]at this
  simpa using this
 ·rw [←List.tail_drop,h];rfl
theorem kX {l:Str} {p:Nat} (h:l.cps.toList.drop p=[]):l.length≤p:=by
 have:=List.drop_eq_nil_iff.mp h
 rw [Array.length_toList]at this
 exact this
section
variable {K:Params→Frag} (hP:Prog K) {n:Nat} {l:Str} {rest:List AO}
include hP
theorem fC {qd:Bool} {loc:List (Str×AV)} {S T L:AV} {p c:Nat} {k:Cls} (hl:mY qd loc) (h:l.cps[p]?=some c) (hk:k.has c):DoesB K (n+2) sc6 (turnB.take 1) ⟨loc,aG S T L::ioO l p::rest⟩ .next ⟨aJ (.bool qd) (.chr k c),aG S T L::ioO l (p+1:Nat)::rest⟩:=by
 rcases hl with rfl|⟨c0,rfl⟩
 ·exact aEu hP h hk
 ·exact aIp hP h hk
theorem tT {qd:Bool} {loc:List (Str×AV)} {S T L:AV} {p:Nat} (hl:mY qd loc) (h:l.length≤p):DoesB K (n+2) sc6 (turnB.take 1) ⟨loc,aG S T L::ioO l p::rest⟩ .next ⟨aJ (.bool qd) (.str ""),aG S T L::ioO l p::rest⟩:=by
 rcases hl with rfl|⟨c0,rfl⟩
 ·exact tS hP h
 ·exact aIq hP h
theorem tG {qd:Bool} {tk:List Nat} {S c0:AV} {ln:Int} (hi:tk≠ []∨qd=true):∃loc',DoesB K (n+2) sc6 kT ⟨aJ (.bool qd) c0,aG S (.sym none (mkS tk)) (.isym ln)::rest⟩ (.ret (dK (some tk))) ⟨loc',aG S (.str "") (.isym ln)::rest⟩:=by
 cases qd with
 |true=>exact⟨_,zJ hP⟩
 |false=>
  have hne:tk≠ []:=hi.resolve_right (by decide)
  exact⟨_,((aIf hP (sEq_ne.mpr fun h=>hne (by have:=congrArg (fun y:Str=>y.cps.toList) h;exact this))).ret dU).pre (bQ (.refl _) (mC hne))⟩
noncomputable abbrev EdA (K:Params→Frag) (n:Nat) (l:Str) (rest:List AO) (m:Md) (tk:List Nat) (p:Nat) (ln:Int) (loc:List (Str×AV)) (res:Option (List Nat)) (ended:Bool) (r':List Nat):Prop:=
 ∃(ln':Int) (p':Nat),l.cps.toList.drop p'=r'∧
  Rd K (n+2) ⟨loc,aG (rV m) (gC m tk) (.isym ln)::ioO l p::rest⟩ (dK res) (aG (if ended then .none else .str " ") (.str "") (.isym ln')::ioO l p'::rest)
set_option maxHeartbeats 1000000 in
theorem aRc:∀(r:List Nat) (m:Md) (tk:List Nat) (qd:Bool) (p:Nat) (ln:Int) (loc:List (Str×AV)) (res:Option (List Nat)) (ended:Bool) (r':List Nat),l.cps.toList.drop p=r→Inv m tk qd→mY qd loc→tk.length+r.length≤sizeLine→
  bW m tk qd r=some (res,ended,r')→EdA K n l rest m tk p ln loc res ended r':=by
 intro r
 induction r with
 |nil=>
  intro m tk qd p ln loc res ended r' hd hi hl hz he
  have hend:=kX hd
  cases m with
  |sp=>
   refine wE (fun x y z=>EdA K n l rest .sp tk p ln loc x y z) he ?_
   refine cK hi fun q0_ q1_=> ?_;subst q0_;subst q1_
   exact⟨ln,p,hd,Rd.brk hP (tT hP hl hend) (aHw hP) (tH hP)⟩
  |a=>
   refine wE (fun x y z=>EdA K n l rest .a tk p ln loc x y z) he ?_
   obtain⟨loc',h⟩:=tG (n:=n) (rest:=ioO l p::rest) hP hi
   exact⟨ln,p,hd,Rd.brk hP (tT hP hl hend) (aKf hP) h⟩
  |q=>exact pV he
  |d=>exact pV he
  |c=>exact pV he
 |cons c r ih=>
  intro m tk qd p ln loc res ended r' hd hi hl hz he
  refine cK (kB hd) fun hc hd'=> ?_
  have hz1:tk.length+(r.length+1)≤sizeLine:=hz
  have hlen:(mkS tk).length+1≤sizeLine:=by rw [aK];lia
  have hz2:(tk++[c]).length+r.length≤sizeLine:=by simp;lia
  have hT:∀(q:AV),mY qd (aJ (.bool qd) q):=fun q=>.inr ⟨q,rfl⟩
  have hT':∀(q:AV),mY true (aJ (.bool true) q):=fun q=>.inr ⟨q,rfl⟩
  have app:AVle (.sym (some true) (mkS tk++⟨#[c]⟩)) (gC .a (tk++[c])):=by rw [aBy];exact dU
  have hz3:([c]:List Nat).length+r.length≤sizeLine:=by simp;lia
  have hz4:tk.length+r.length≤sizeLine:=by lia
  cases m with
  |sp=>
   refine cK hi fun q0_ q1_=> ?_;subst q0_;subst q1_
   rcases ifE he with⟨q,he⟩|⟨q,he⟩
   ·skip
    obtain⟨ln',p',e,h⟩:=ih .sp [] false (p+1) ln _ res ended r' hd' ⟨rfl,rfl⟩ (hT _) (by simpa using hz4) he
    exact⟨ln',p',e,Rd.turn hP (fC hP hl hc (k:=.fin [32]) (hV q)) (aB1 hP) rfl h⟩
   ·rcases ifE he with⟨q,he⟩|⟨q,he⟩
    ·skip
     have one:∀k:Cls,AVle (.chr k c) (gC .a [c]):=fun k=>avle_chr.trans dU
     have go:∀k:Cls,k.has c→DoesB K (n+2) sc6 (turnB.drop 1) ⟨aJ (.bool false) (.chr k c),aG (.str " ") (.str "") (.isym ln)::ioO l (p+1:Nat)::rest⟩ .next ⟨aJ (.bool false) (.chr k c),aG (.str "a") (.chr k c) (.isym ln)::ioO l (p+1:Nat)::rest⟩→
       ∃(ln':Int) (p':Nat),l.cps.toList.drop p'=r'∧Rd K (n+2) ⟨loc,aG (rV .sp) (gC .sp []) (.isym ln)::ioO l p::rest⟩ (dK res) (aG (if ended then .none else .str " ") (.str "") (.isym ln')::ioO l p'::rest):=fun k hk ht=>by
      refine fL (ih .a [c] false (p+1) ln (aJ (.bool false) (.chr k c)) res ended r' hd' (.inl (by simp)) (hT _) hz3 he) fun ln' p' e h=> ?_
      exact⟨ln',p',e,Rd.turn hP (fC hP hl hc hk) ht rfl (h.pre (bQ (.refl _) (one k)))⟩
     rcases Bool.or_eq_true _ _|>.mp q with q|q
     ·rcases gV q with q|q|q
      ·exact go (.fin dN) q (aE2 hP)
      ·exact go (.fin dQ) q (aE4 hP)
      ·exact go (.fin dO) q (aE3 hP)
     ·exact go (.fin dC) (memB_iff.mp q) (aHx hP)
    ·rcases ifE he with⟨q,he⟩|⟨q,he⟩
     ·skip
      refine fL (ih .q [] false (p+1) ln _ res ended r' hd' trivial (hT (.chr (.fin [39]) c)) (by simpa using hz4) he) fun ln' p' e h=> ?_
      exact⟨ln',p',e,Rd.turn hP (fC hP hl hc (k:=.fin [39]) (hV q)) (aB0 hP) rfl (h.pre (bQ (jC rfl) vM))⟩
     ·exact pV he
  |a=>
   rcases ifE he with⟨q,he⟩|⟨q,he⟩
   ·skip
    refine wE (fun x y z=>EdA K n l rest .a tk p ln loc x y z) he ?_
    refine cB (tG (n:=n) (rest:=ioO l (p+1:Nat)::rest) (S:=.str " ") (c0:=.chr (.fin [32]) c) (ln:=ln) hP hi) fun loc' h=> ?_
    refine⟨ln,p+1,hd', ?_⟩
    have hn:=fC (n:=n) (rest:=rest) (S:=.str "a") (T:=.sym none (mkS tk)) (L:=.isym ln) hP hl hc (k:=.fin [32]) (hV q)
    cases qd with
    |true=>
     cases hb:(match(mkS tk).cps.toList with|[]=>false|_=>true)with
     |true=>exact Rd.brk hP hn (pQ hP hb) h
     |false=>exact Rd.brk hP hn (oD hP hb) h
    |false=>
     have hne:tk≠ []:=hi.resolve_right (by decide)
     exact Rd.brk hP hn ((aE9 hP).pre (bQ (.refl _) (mC hne))) (h.pre (bQ (.refl _) dU))
   ·rcases ifE he with⟨q,he⟩|⟨q,he⟩
    ·skip
     have go:∀k:Cls,k.has c→DoesB K (n+2) sc6 (turnB.drop 1) ⟨aJ (.bool qd) (.chr k c),aG (.str "a") (.sym none (mkS tk)) (.isym ln)::ioO l (p+1:Nat)::rest⟩ .next ⟨aJ (.bool qd) (.chr k c),aG (.str "a") (.sym (some true) (mkS tk++⟨#[c]⟩)) (.isym ln)::ioO l (p+1:Nat)::rest⟩→
       ∃(ln':Int) (p':Nat),l.cps.toList.drop p'=r'∧Rd K (n+2) ⟨loc,aG (rV .a) (gC .a tk) (.isym ln)::ioO l p::rest⟩ (dK res) (aG (if ended then .none else .str " ") (.str "") (.isym ln')::ioO l p'::rest):=fun k hk ht=>by
      refine fL (ih .a (tk++[c]) qd (p+1) ln (aJ (.bool qd) (.chr k c)) res ended r' hd' (.inl (by simp)) (hT _) hz2 he) fun ln' p' e h=> ?_
      exact⟨ln',p',e,Rd.turn hP (fC hP hl hc hk) ht rfl (h.pre (bQ (.refl _) app))⟩
     rcases Bool.or_eq_true _ _|>.mp q with q|q
     ·rcases gV q with q|q|q
      ·exact go (.fin dN) q (aHz hP hlen)
      ·exact go (.fin dQ) q (aI1 hP hlen)
      ·exact go (.fin dO) q (aI0 hP hlen)
     ·exact go (.fin dC) (memB_iff.mp q) (aKg hP hlen)
    ·rcases ifE he with⟨q,he⟩|⟨q,he⟩
     ·skip
      refine fL (ih .q tk qd (p+1) ln _ res ended r' hd' trivial (hT (.chr (.fin [39]) c)) hz4 he) fun ln' p' e h=> ?_
      exact⟨ln',p',e,Rd.turn hP (fC hP hl hc (k:=.fin [39]) (hV q)) (aE8 hP) rfl (h.pre (bQ (jC rfl) (.refl _)))⟩
     ·rcases ifE he with⟨q,he⟩|⟨q,he⟩
      ·skip
       refine fL (ih .d tk qd (p+1) ln _ res ended r' hd' trivial (hT (.chr (.fin [34]) c)) hz4 he) fun ln' p' e h=> ?_
       exact⟨ln',p',e,Rd.turn hP (fC hP hl hc (k:=.fin [34]) (hV q)) (aB3 hP) rfl (h.pre (bQ (jC rfl) (.refl _)))⟩
      ·exact pV he
  |q=>
   rcases ifE he with⟨q,he⟩|⟨q,he⟩
   ·skip
    refine fL (ih .a tk true (p+1) ln _ res ended r' hd' (.inr rfl) (hT' (.chr (.fin [39]) c)) hz4 he) fun ln' p' e h=> ?_
    exact⟨ln',p',e,Rd.turn hP (fC hP hl hc (k:=.fin [39]) (hV q)) (aE5 hP) rfl h⟩
   ·have q39:=q
    by_cases q:c=10
    ·skip
     refine fL (ih .q (tk++[c]) true (p+1) (ln+1) _ res ended r' hd' trivial (hT' (.chr (.fin [10]) c)) hz2 he) fun ln' p' e h=> ?_
     exact⟨ln',p',e,Rd.turn hP (fC hP hl hc (k:=.fin [10]) (hV q)) (aN0 hP hlen) rfl (h.pre (bQ (.refl _) app))⟩
    ·by_cases q':c=92
     ·skip
      refine fL (ih .q (tk++[c]) true (p+1) ln _ res ended r' hd' trivial (hT' (.chr (.fin [92]) c)) hz2 he) fun ln' p' e h=> ?_
      exact⟨ln',p',e,Rd.turn hP (fC hP hl hc (k:=.fin [92]) (hV q')) (aHy hP hlen) rfl (h.pre (bQ (.refl _) app))⟩
     ·refine fL (ih .q (tk++[c]) true (p+1) ln _ res ended r' hd' trivial (hT' (.chr (.cofin [39,10,92]) c)) hz2 he) fun ln' p' e h=> ?_
      exact⟨ln',p',e,Rd.turn hP (fC hP hl hc (k:=.cofin [39,10,92]) (by simp [Cls.has,q39,q,q'])) (aE6 hP hlen) rfl (h.pre (bQ (.refl _) app))⟩
  |d=>
   rcases ifE he with⟨q,he⟩|⟨q,he⟩
   ·skip
    refine fL (ih .a tk true (p+1) ln _ res ended r' hd' (.inr rfl) (hT' (.chr (.fin [34]) c)) hz4 he) fun ln' p' e h=> ?_
    exact⟨ln',p',e,Rd.turn hP (fC hP hl hc (k:=.fin [34]) (hV q)) (aB2 hP) rfl h⟩
   ·rcases ifE he with⟨q,he⟩|⟨q,he⟩
    ·skip
     refine fL (ih .d (tk++[c]) true (p+1) ln _ res ended r' hd' trivial (hT' (.chr (.fin [39]) c)) hz2 he) fun ln' p' e h=> ?_
     exact⟨ln',p',e,Rd.turn hP (fC hP hl hc (k:=.fin [39]) (hV q)) (aE7 hP hlen) rfl (h.pre (bQ (.refl _) app))⟩
    ·exact pV he
  |c=>exact pV he
end
end Mine
end
section
namespace Mine
noncomputable def Src (l:Str) (r:List Nat) (p:Nat) (dq:List AV):Prop:=(dq=[]∧l.cps.toList.drop p=r)∨∃k c r',dq=[.chr k c]∧r=c::r'∧l.cps.toList.drop p=r'
section
variable {K:Params→Frag} (hP:Prog K) {n:Nat} {l:Str} {d2 d3:AO} {rest:List AO}
include hP
theorem aPy {qd:Bool} {loc:List (Str×AV)} {S T L:AV} {p c:Nat} {r:List Nat} {dq:List AV} {k:Cls} (hl:mY qd loc) (hs:Src l (c::r) p dq) (hk:k.has c):
  ∃p':Nat,l.cps.toList.drop p'=r∧DoesB K (n+2) sc6 (turnB.take 1) ⟨loc,aE S T L::ioO l p::d2::d3:: .deq dq::rest⟩ .next ⟨aJ (.bool qd) (.chr k c),aE S T L::ioO l p'::d2::d3:: .deq []::rest⟩:=by
 rcases hs with⟨rfl,hd⟩|⟨k',c',r',rfl,e,hd⟩
 ·obtain⟨hc,hd'⟩:=kB hd
  refine⟨p+1,hd', ?_⟩
  rcases hl with rfl|⟨c0,rfl⟩
  ·exact aEs hP hc hk
  ·exact aIn hP hc hk
 ·cases e
  refine⟨p,hd, ?_⟩
  have w:StLe ⟨aJ (.bool qd) (.chr k' c),aE S T L::ioO l p::d2::d3:: .deq []::rest⟩ ⟨aJ (.bool qd) (.chr k c),aE S T L::ioO l p::d2::d3:: .deq []::rest⟩:=
   ⟨.cons ⟨rfl,.refl _⟩ (.cons ⟨rfl,.refl _⟩ (.cons ⟨rfl,.refl _⟩ (.cons ⟨rfl,aM6 hk⟩ .nil))),bG AOle.refl _⟩
  rcases hl with rfl|⟨c0,rfl⟩
  ·exact(aBw hP).post w
  ·exact(aEr hP).post w
theorem tR {qd:Bool} {loc:List (Str×AV)} {S T L:AV} {p:Nat} {dq:List AV} (hl:mY qd loc) (hs:Src l [] p dq):
  dq=[]∧DoesB K (n+2) sc6 (turnB.take 1) ⟨loc,aE S T L::ioO l p::d2::d3:: .deq []::rest⟩ .next ⟨aJ (.bool qd) (.str ""),aE S T L::ioO l p::d2::d3:: .deq []::rest⟩:=by
 rcases hs with⟨rfl,hd⟩|⟨k',c',r',rfl,e,hd⟩
 ·refine⟨rfl, ?_⟩
  have hend:=kX hd
  rcases hl with rfl|⟨c0,rfl⟩
  ·exact aEt hP hend
  ·exact aIo hP hend
 ·cases e
theorem eX {qd:Bool} {tk:List Nat} {S c0:AV} {ln:Int} (hi:tk≠ []∨qd=true):∃loc',DoesB K (n+2) sc6 kT ⟨aJ (.bool qd) c0,aE S (.sym none (mkS tk)) (.isym ln)::rest⟩ (.ret (dK (some tk))) ⟨loc',aE S (.str "") (.isym ln)::rest⟩:=by
 cases qd with
 |true=>exact⟨_,zI hP⟩
 |false=>
  have hne:tk≠ []:=hi.resolve_right (by decide)
  exact⟨_,((aIe hP (sEq_ne.mpr fun h=>hne (by have:=congrArg (fun y:Str=>y.cps.toList) h;exact this))).ret dU).pre (bQ (.refl _) (mC hne))⟩
noncomputable abbrev EdB (K:Params→Frag) (n:Nat) (l:Str) (d2 d3:AO) (rest:List AO) (m:Md) (tk:List Nat) (p:Nat) (dq:List AV) (ln:Int) (loc:List (Str×AV)) (res:Option (List Nat)) (ended:Bool) (r':List Nat):Prop:=
 ∃(ln':Int) (p':Nat) (dq':List AV),Src l r' p' dq'∧
  Rd K (n+2) ⟨loc,aE (rV m) (gC m tk) (.isym ln)::ioO l p::d2::d3:: .deq dq::rest⟩ (dK res) (aE (if ended then .none else .str " ") (.str "") (.isym ln')::ioO l p'::d2::d3:: .deq dq'::rest)
set_option maxHeartbeats 1000000 in
theorem aRb:∀(r:List Nat) (m:Md) (tk:List Nat) (qd:Bool) (p:Nat) (dq:List AV) (ln:Int) (loc:List (Str×AV)) (res:Option (List Nat)) (ended:Bool) (r':List Nat),Src l r p dq→Inv m tk qd→mY qd loc→tk.length+r.length≤sizeLine→
  bT m tk qd r=some (res,ended,r')→EdB K n l d2 d3 rest m tk p dq ln loc res ended r':=by
 intro r
 induction r with
 |nil=>
  intro m tk qd p dq ln loc res ended r' hs hi hl hz he
  have hn:=fun S T L=>tR (n:=n) (S:=S) (T:=T) (L:=L) (d2:=d2) (d3:=d3) (rest:=rest) hP hl hs
  obtain⟨rfl,_⟩:=hn .none .none .none
  cases m with
  |sp=>
   refine wE (fun x y z=>EdB K n l d2 d3 rest .sp tk p [] ln loc x y z) he ?_
   obtain⟨rfl,rfl⟩:=hi
   exact⟨ln,p,[],hs,Rd.brk hP (hn _ _ _).2 (aHn hP) (tF hP)⟩
  |a=>
   refine wE (fun x y z=>EdB K n l d2 d3 rest .a tk p [] ln loc x y z) he ?_
   obtain⟨loc',h⟩:=eX (n:=n) (rest:=ioO l p::d2::d3:: .deq []::rest) hP hi
   exact⟨ln,p,[],hs,Rd.brk hP (hn _ _ _).2 (aKd hP) h⟩
  |q=>exact pV he
  |d=>exact pV he
  |c=>
   refine wE (fun x y z=>EdB K n l d2 d3 rest .c tk p [] ln loc x y z) he ?_
   obtain⟨loc',h⟩:=eX (n:=n) (qd:=qd) (rest:=ioO l p::d2::d3:: .deq []::rest) hP (.inl hi)
   exact⟨ln,p,[],hs,Rd.brk hP (hn _ _ _).2 (aKb hP) h⟩
 |cons c r ih=>
  intro m tk qd p dq ln loc res ended r' hs hi hl hz he
  have hz1:tk.length+(r.length+1)≤sizeLine:=hz
  have hlen:(mkS tk).length+1≤sizeLine:=by rw [aK];lia
  have hz2:(tk++[c]).length+r.length≤sizeLine:=by simp;lia
  have hT:∀(q:AV),mY qd (aJ (.bool qd) q):=fun q=>.inr ⟨q,rfl⟩
  have hT':∀(q:AV),mY true (aJ (.bool true) q):=fun q=>.inr ⟨q,rfl⟩
  have app:AVle (.sym (some true) (mkS tk++⟨#[c]⟩)) (gC .a (tk++[c])):=by rw [aBy];exact dU
  have hz3:([c]:List Nat).length+r.length≤sizeLine:=by simp;lia
  have hz4:tk.length+r.length≤sizeLine:=by lia
  have hn:∀(S T L:AV) (k:Cls),k.has c→∃p':Nat,l.cps.toList.drop p'=r∧DoesB K (n+2) sc6 (turnB.take 1) ⟨loc,aE S T L::ioO l p::d2::d3:: .deq dq::rest⟩ .next ⟨aJ (.bool qd) (.chr k c),aE S T L::ioO l p'::d2::d3:: .deq []::rest⟩:=fun S T L k hk=>aPy hP hl hs hk
  have go:∀(k:Cls) (m':Md) (tk':List Nat) (qd':Bool) (ln':Int) (T' S':AV),k.has c→Inv m' tk' qd'→tk'.length+r.length≤sizeLine→AVle S' (rV m')→AVle T' (gC m' tk')→bT m' tk' qd' r=some (res,ended,r')→∀g:AFlow,zV g=true→
    (∀p',DoesB K (n+2) sc6 (turnB.drop 1) ⟨aJ (.bool qd) (.chr k c),aE (rV m) (gC m tk) (.isym ln)::ioO l p'::d2::d3:: .deq []::rest⟩ g ⟨aJ (.bool qd') (.chr k c),aE S' T' (.isym ln')::ioO l p'::d2::d3:: .deq []::rest⟩)→
    EdB K n l d2 d3 rest m tk p dq ln loc res ended r':=by
   intro k m' tk' qd' ln' T' S' hk hi' hz' hS hT0 he' g hg ht
   refine aH (hn (rV m) (gC m tk) (.isym ln) k hk) fun p' hd' hb=> ?_
   refine nX (ih m' tk' qd' p' [] ln' (aJ (.bool qd') (.chr k c)) res ended r' (.inl ⟨rfl,hd'⟩) hi' (.inr ⟨_,rfl⟩) hz' he') fun ln2 p2 dq2 e h=> ?_
   exact⟨ln2,p2,dq2,e,Rd.turn hP hb (ht p') hg (h.pre (bQ hS hT0))⟩
  cases m with
  |sp=>
   have one:∀k:Cls,AVle (.chr k c) (gC .a [c]):=fun k=>avle_chr.trans dU
   rcases ifE he with⟨q,he⟩|⟨q,he⟩
   ·skip
    exact go (.fin [32]) .sp tk qd ln _ _ (hV q) hi hz4 (.refl _) (.refl _) he _ rfl fun p'=>hi.2▸aAx hP
   ·rcases ifE he with⟨q,he⟩|⟨q,he⟩
    ·skip
     rcases gV q with q|q|q
     ·exact go (.fin dN) .a [c] qd ln _ _ q (.inl (by simp)) hz3 (.refl _) (one _) he _ rfl fun p'=>aDs hP
     ·exact go (.fin dQ) .a [c] qd ln _ _ q (.inl (by simp)) hz3 (.refl _) (one _) he _ rfl fun p'=>aDu hP
     ·exact go (.fin dO) .a [c] qd ln _ _ q (.inl (by simp)) hz3 (.refl _) (one _) he _ rfl fun p'=>aDt hP
    ·rcases ifE he with⟨q,he⟩|⟨q,he⟩
     ·skip
      exact go (.fin dC) .c [c] qd ln _ _ (memB_iff.mp q) (by simp [Inv]) hz3 (.refl _) (one _) he _ rfl fun p'=>aHo hP
     ·rcases ifE he with⟨q,he⟩|⟨q,he⟩
      ·skip
       exact go (.fin [39]) .q tk qd ln _ _ (hV q) trivial hz4 (jC rfl) (by rw [hi.1];exact vM) he _ rfl fun p'=>aAw hP
      ·exact pV he
  |a=>
   rcases ifE he with⟨q,he⟩|⟨q,he⟩
   ·skip
    refine wE (fun x y z=>EdB K n l d2 d3 rest .a tk p dq ln loc x y z) he ?_
    refine aH (hn (rV .a) (gC .a tk) (.isym ln) (.fin [32]) (hV q)) fun p' hd' hb=> ?_
    refine cB (eX (n:=n) (rest:=ioO l p'::d2::d3:: .deq []::rest) (S:=.str " ") (c0:=.chr (.fin [32]) c) (ln:=ln) hP hi) fun loc' h=> ?_
    refine⟨ln,p',[],.inl ⟨rfl,hd'⟩, ?_⟩
    cases qd with
    |true=>
     cases hb':(match(mkS tk).cps.toList with|[]=>false|_=>true)with
     |true=>exact Rd.brk hP hb (pP hP hb') h
     |false=>exact Rd.brk hP hb (oC hP hb') h
    |false=>
     have hne:tk≠ []:=hi.resolve_right (by decide)
     exact Rd.brk hP hb ((aE1 hP).pre (bQ (.refl _) (mC hne))) (h.pre (bQ (.refl _) dU))
   ·rcases ifE he with⟨q,he⟩|⟨q,he⟩
    ·skip
     rcases gV q with q|q|q
     ·exact go (.fin dN) .a (tk++[c]) qd ln _ _ q (.inl (by simp)) hz2 (.refl _) app he _ rfl fun p'=>aHt hP hlen
     ·exact go (.fin dQ) .a (tk++[c]) qd ln _ _ q (.inl (by simp)) hz2 (.refl _) app he _ rfl fun p'=>aHv hP hlen
     ·exact go (.fin dO) .a (tk++[c]) qd ln _ _ q (.inl (by simp)) hz2 (.refl _) app he _ rfl fun p'=>aHu hP hlen
    ·rcases ifE he with⟨q,he⟩|⟨q,he⟩
     ·skip
      refine wE (fun x y z=>EdB K n l d2 d3 rest .a tk p dq ln loc x y z) he ?_
      refine aH (hn (rV .a) (gC .a tk) (.isym ln) (.fin dC) (memB_iff.mp q)) fun p' hd' hb=> ?_
      refine cB (eX (n:=n) (rest:=ioO l p'::d2::d3:: .deq [.chr (.fin dC) c]::rest) (S:=.str " ") (c0:=.chr (.fin dC) c) (ln:=ln) hP hi) fun loc' h=> ?_
      refine⟨ln,p',[.chr (.fin dC) c],.inr ⟨_,c,r,rfl,rfl,hd'⟩, ?_⟩
      cases qd with
      |true=>
       cases hb':(match(mkS tk).cps.toList with|[]=>false|_=>true)with
       |true=>exact Rd.brk hP hb (sZ hP hb') h
       |false=>exact Rd.brk hP hb (rU hP hb') h
      |false=>
       have hne:tk≠ []:=hi.resolve_right (by decide)
       exact Rd.brk hP hb ((aKe hP).pre (bQ (.refl _) (mC hne))) (h.pre (bQ (.refl _) dU))
     ·rcases ifE he with⟨q,he⟩|⟨q,he⟩
      ·skip
       exact go (.fin [39]) .q tk qd ln _ _ (hV q) trivial hz4 (jC rfl) (.refl _) he _ rfl fun p'=>aE0 hP
      ·rcases ifE he with⟨q,he⟩|⟨q,he⟩
       ·skip
        exact go (.fin [34]) .d tk qd ln _ _ (hV q) trivial hz4 (jC rfl) (.refl _) he _ rfl fun p'=>aAz hP
       ·exact pV he
  |q=>
   rcases ifE he with⟨q,he⟩|⟨q,he⟩
   ·skip
    exact go (.fin [39]) .a tk true ln _ _ (hV q) (.inr rfl) hz4 (.refl _) (.refl _) he _ rfl fun p'=>aDv hP
   ·have q39:=q
    by_cases q:c=10
    ·skip
     exact go (.fin [10]) .q (tk++[c]) true (ln+1) _ _ (hV q) trivial hz2 (.refl _) app he _ rfl fun p'=>aMy hP hlen
    ·by_cases q':c=92
     ·skip
      exact go (.fin [92]) .q (tk++[c]) true ln _ _ (hV q') trivial hz2 (.refl _) app he _ rfl fun p'=>aHp hP hlen
     ·exact go (.cofin [39,10,92]) .q (tk++[c]) true ln _ _ (by simp [Cls.has,q39,q,q']) trivial hz2 (.refl _) app he _ rfl fun p'=>aDw hP hlen
  |d=>
   rcases ifE he with⟨q,he⟩|⟨q,he⟩
   ·skip
    exact go (.fin [34]) .a tk true ln _ _ (hV q) (.inr rfl) hz4 (.refl _) (.refl _) he _ rfl fun p'=>aAy hP
   ·rcases ifE he with⟨q,he⟩|⟨q,he⟩
    ·skip
     exact go (.fin [39]) .d (tk++[c]) true ln _ _ (hV q) trivial hz2 (.refl _) app he _ rfl fun p'=>aDx hP hlen
    ·exact pV he
  |c=>
   have hne:tk≠ []:=hi
   rcases ifE he with⟨q,he⟩|⟨q,he⟩
   ·skip
    refine wE (fun x y z=>EdB K n l d2 d3 rest .c tk p dq ln loc x y z) he ?_
    refine aH (hn (rV .c) (gC .c tk) (.isym ln) (.fin [32]) (hV q)) fun p' hd' hb=> ?_
    refine cB (eX (n:=n) (qd:=qd) (rest:=ioO l p'::d2::d3:: .deq []::rest) (S:=.str " ") (c0:=.chr (.fin [32]) c) (ln:=ln) hP (.inl hne)) fun loc' h=> ?_
    exact⟨ln,p',[],.inl ⟨rfl,hd'⟩,Rd.brk hP hb ((aDz hP).pre (bQ (.refl _) (mC hne))) (h.pre (bQ (.refl _) dU))⟩
   ·rcases ifE he with⟨q,he⟩|⟨q,he⟩
    ·skip
     exact go (.fin dC) .c (tk++[c]) qd ln _ _ (memB_iff.mp q) (by simp [Inv]) hz2 (.refl _) app he _ rfl fun p'=>aKc hP hlen
    ·rcases ifE he with⟨q,he⟩|⟨q,he⟩
     ·skip
      refine wE (fun x y z=>EdB K n l d2 d3 rest .c tk p dq ln loc x y z) he ?_
      have fin:∀k:Cls,k.has c→(∀p',DoesB K (n+2) sc6 (turnB.drop 1) ⟨aJ (.bool qd) (.chr k c),aE (.str "c") (.sym none (mkS tk)) (.isym ln)::ioO l p'::d2::d3:: .deq []::rest⟩ .brk ⟨aJ (.bool qd) (.chr k c),aE (.str " ") (.sym none (mkS tk)) (.isym ln)::ioO l p'::d2::d3:: .deq [.chr k c]::rest⟩)→
        ∃(ln':Int) (p':Nat) (dq':List AV),Src l (c::r) p' dq'∧Rd K (n+2) ⟨loc,aE (rV .c) (gC .c tk) (.isym ln)::ioO l p::d2::d3:: .deq dq::rest⟩ (dK (some tk)) (aE (if false then .none else .str " ") (.str "") (.isym ln')::ioO l p'::d2::d3:: .deq dq'::rest):=fun k hk ht=>by
       refine aH (hn (rV .c) (gC .c tk) (.isym ln) k hk) fun p' hd' hb=> ?_
       refine cB (eX (n:=n) (qd:=qd) (rest:=ioO l p'::d2::d3:: .deq [.chr k c]::rest) (S:=.str " ") (c0:=.chr k c) (ln:=ln) hP (.inl hne)) fun loc' h=> ?_
       exact⟨ln,p',[.chr k c],.inr ⟨_,c,r,rfl,rfl,hd'⟩,Rd.brk hP hb (ht p') h⟩
      rcases Bool.or_eq_true _ _|>.mp q with q|q
      ·rcases gV q with q|q|q
       ·exact fin (.fin dN) q fun p'=>aHq hP
       ·exact fin (.fin dQ) q fun p'=>aHs hP
       ·exact fin (.fin dO) q fun p'=>aHr hP
      ·have:c=39:=by simpa using q
       exact fin (.fin [39]) (hV this) fun p'=>aDy hP
     ·exact pV he
end
end Mine
end
section
namespace Mine
section
variable {K:Params→Frag} {n:Nat} {sc:Scope} {st st₁ st₂:AS} {test:Expr} {body orelse:List Stmt} {v:AV}
theorem yG (h:cW K n sc test st true st₁) (k:DoesB K n sc body st₁ (.ret v) st₂):DoesW K n sc test body orelse st (.ret v) st₂:=fun x hx ρ s Q E R kk=>by
 refine iJ (h x hx ρ s _ _ R fun b s₁ ρ₁ R₁ N₁ e=> ?_)
 subst e
 refine k x hx ρ₁ s₁ _ _ R₁ fun f s₂ ρ₂ R₂ N₂ e=> ?_
 refine aH e fun u q1_ d=> ?_;subst q1_
 exact kk _ s₂ ρ₂ R₂ (N₁.trans N₂) ⟨u,rfl,d⟩
theorem eO {t:Tab} {m:Nat} (ht:TabOk K t) {e:Expr} {st st':AS} {td:List Td} {b:Bool} {obs:List Prop} (h:(lv K t n sc m).tr e st td=some (b,st',[],obs)) (ho:∀p∈obs,p):cW K n sc e st b st':=
 fun x hx ρ=>(jJ ht hx m).2 ρ e _ _ _ _ _ _ h ho
end
noncomputable def sc5:Scope:=bC (aC shB 5)
noncomputable def fV:Stmt:=aC (aO (aC shB 5)) 3
noncomputable def aR1:Expr:=stE fV
noncomputable def aSp:Pos:=match fV with| .While _ _ _ p=>p|_=>⟨0,0,0,0⟩
theorem lM:fV= .While aR1 (aO fV) [] aSp:=by kernel_rfl
noncomputable def fO (r:AV):List (Str×AV):=[("self",.obj 0),("raw",r)]
section
variable {K:Params→Frag} (hP:Prog K) {n:Nat} {S T L S' T' L':AV} {io io':AO} {rest rest':List AO} {tk:Str}
include hP
theorem mH
  (h:DoesCall K n (.ref 700) [.obj 0] [] (aG S T L::io:: .deq []:: .deq []::rest) (.sym none tk) (aG S' T' L'::io':: .deq []:: .deq []::rest')):
  DoesCall K (n+1) (.ref 693) [.obj 0] [] (aG S T L::io:: .deq []:: .deq []::rest) (.sym none tk) (aG S' T' L'::io':: .deq []:: .deq []::rest'):=by
 have hw:DoesS K n sc5 fV ⟨fO (.sym none tk),aG S' T' L'::io':: .deq []:: .deq []::rest'⟩ .next ⟨fO (.sym none tk),aG S' T' L'::io':: .deq []:: .deq []::rest'⟩:=by
  rw [lM]
  exact eI (lW (eO (m:=10) (td:=[]) (obs:=[]) hP.tab (by kernel_rfl) all_nil) cM)
 exact bZ hP.f693.fn (hb1 hP.b693) (by kernel_rfl) (bI (by kernel_rfl)) (fl:=.ret (.sym none tk)) (loc':=fO (.sym none tk))
  (aB (m:=20) (k:=20) (td:=[.c (.sym none tk) (aG S' T' L'::io':: .deq []:: .deq []::rest'),.s .next ⟨fO (.sym none tk),aG S' T' L'::io':: .deq []:: .deq []::rest'⟩])
   (obs:=[DoesCall K n (.ref 700) [.obj 0] [] (aG S T L::io:: .deq []:: .deq []::rest) (.sym none tk) (aG S' T' L'::io':: .deq []:: .deq []::rest'),
    DoesS K n sc5 fV ⟨fO (.sym none tk),aG S' T' L'::io':: .deq []:: .deq []::rest'⟩ .next ⟨fO (.sym none tk),aG S' T' L'::io':: .deq []:: .deq []::rest'⟩]) hP.tab (by kernel_rfl) (aA h (aA hw all_nil))) rfl
theorem gF
  (h:DoesCall K n (.ref 700) [.obj 0] [] (aG S T L::io:: .deq []:: .deq []::rest) .none (aG S' T' L'::io':: .deq []:: .deq []::rest')):
  DoesCall K (n+1) (.ref 693) [.obj 0] [] (aG S T L::io:: .deq []:: .deq []::rest) .none (aG S' T' L'::io':: .deq []:: .deq []::rest'):=by
 have hw:DoesS K n sc5 fV ⟨fO .none,aG S' T' L'::io':: .deq []:: .deq []::rest'⟩ (.ret .none) ⟨fO .none,aG S' T' L'::io':: .deq []:: .deq []::rest'⟩:=by
  rw [lM]
  exact eI (yG (eO (m:=10) (td:=[]) (obs:=[]) hP.tab (by kernel_rfl) all_nil) (st₁:=⟨fO .none,aG S' T' L'::io':: .deq []:: .deq []::rest'⟩) (aB (m:=20) (k:=20) (td:=[]) (obs:=[]) hP.tab (by kernel_rfl) all_nil))
 exact bZ hP.f693.fn (hb1 hP.b693) (by kernel_rfl) (bI (by kernel_rfl)) (fl:=.ret .none) (loc':=fO .none)
  (aB (m:=20) (k:=20) (td:=[.c .none (aG S' T' L'::io':: .deq []:: .deq []::rest'),.s (.ret .none) ⟨fO .none,aG S' T' L'::io':: .deq []:: .deq []::rest'⟩])
   (obs:=[DoesCall K n (.ref 700) [.obj 0] [] (aG S T L::io:: .deq []:: .deq []::rest) .none (aG S' T' L'::io':: .deq []:: .deq []::rest'),
    DoesS K n sc5 fV ⟨fO .none,aG S' T' L'::io':: .deq []:: .deq []::rest'⟩ (.ret .none) ⟨fO .none,aG S' T' L'::io':: .deq []:: .deq []::rest'⟩]) hP.tab (by kernel_rfl) (aA h (aA hw all_nil))) rfl
theorem mG
  (h:DoesCall K n (.ref 700) [.obj 0] [] (aE S T L::io:: .deq []:: .deq []::rest) (.sym none tk) (aE S' T' L'::io':: .deq []:: .deq []::rest')):
  DoesCall K (n+1) (.ref 693) [.obj 0] [] (aE S T L::io:: .deq []:: .deq []::rest) (.sym none tk) (aE S' T' L'::io':: .deq []:: .deq []::rest'):=by
 have hw:DoesS K n sc5 fV ⟨fO (.sym none tk),aE S' T' L'::io':: .deq []:: .deq []::rest'⟩ .next ⟨fO (.sym none tk),aE S' T' L'::io':: .deq []:: .deq []::rest'⟩:=by
  rw [lM]
  exact eI (lW (eO (m:=10) (td:=[]) (obs:=[]) hP.tab (by kernel_rfl) all_nil) cM)
 exact bZ hP.f693.fn (hb1 hP.b693) (by kernel_rfl) (bI (by kernel_rfl)) (fl:=.ret (.sym none tk)) (loc':=fO (.sym none tk))
  (aB (m:=20) (k:=20) (td:=[.c (.sym none tk) (aE S' T' L'::io':: .deq []:: .deq []::rest'),.s .next ⟨fO (.sym none tk),aE S' T' L'::io':: .deq []:: .deq []::rest'⟩])
   (obs:=[DoesCall K n (.ref 700) [.obj 0] [] (aE S T L::io:: .deq []:: .deq []::rest) (.sym none tk) (aE S' T' L'::io':: .deq []:: .deq []::rest'),
    DoesS K n sc5 fV ⟨fO (.sym none tk),aE S' T' L'::io':: .deq []:: .deq []::rest'⟩ .next ⟨fO (.sym none tk),aE S' T' L'::io':: .deq []:: .deq []::rest'⟩]) hP.tab (by kernel_rfl) (aA h (aA hw all_nil))) rfl
theorem gE
  (h:DoesCall K n (.ref 700) [.obj 0] [] (aE S T L::io:: .deq []:: .deq []::rest) .none (aE S' T' L'::io':: .deq []:: .deq []::rest')):
  DoesCall K (n+1) (.ref 693) [.obj 0] [] (aE S T L::io:: .deq []:: .deq []::rest) .none (aE S' T' L'::io':: .deq []:: .deq []::rest'):=by
 have hw:DoesS K n sc5 fV ⟨fO .none,aE S' T' L'::io':: .deq []:: .deq []::rest'⟩ (.ret .none) ⟨fO .none,aE S' T' L'::io':: .deq []:: .deq []::rest'⟩:=by
  rw [lM]
  exact eI (yG (eO (m:=10) (td:=[]) (obs:=[]) hP.tab (by kernel_rfl) all_nil) (st₁:=⟨fO .none,aE S' T' L'::io':: .deq []:: .deq []::rest'⟩) (aB (m:=20) (k:=20) (td:=[]) (obs:=[]) hP.tab (by kernel_rfl) all_nil))
 exact bZ hP.f693.fn (hb1 hP.b693) (by kernel_rfl) (bI (by kernel_rfl)) (fl:=.ret .none) (loc':=fO .none)
  (aB (m:=20) (k:=20) (td:=[.c .none (aE S' T' L'::io':: .deq []:: .deq []::rest'),.s (.ret .none) ⟨fO .none,aE S' T' L'::io':: .deq []:: .deq []::rest'⟩])
   (obs:=[DoesCall K n (.ref 700) [.obj 0] [] (aE S T L::io:: .deq []:: .deq []::rest) .none (aE S' T' L'::io':: .deq []:: .deq []::rest'),
    DoesS K n sc5 fV ⟨fO .none,aE S' T' L'::io':: .deq []:: .deq []::rest'⟩ (.ret .none) ⟨fO .none,aE S' T' L'::io':: .deq []:: .deq []::rest'⟩]) hP.tab (by kernel_rfl) (aA h (aA hw all_nil))) rfl
end
section
variable {K:Params→Frag} (hP:Prog K) {n:Nat} {l:Str} {rest:List AO}
include hP
theorem aQ6 {p:Nat} {ln:Int} {r r':List Nat} {res:Option (List Nat)} {ended:Bool} (hd:l.cps.toList.drop p=r) (hz:r.length≤sizeLine) (he:bW .sp [] false r=some (res,ended,r')):
  ∃(ln':Int) (p':Nat),l.cps.toList.drop p'=r'∧DoesCall K (n+4) (.ref 693) [.obj 0] [] (aG (.str " ") (.str "") (.isym ln)::ioO l p:: .deq []:: .deq []::rest) (dK res) (aG (if ended then .none else .str " ") (.str "") (.isym ln')::ioO l p':: .deq []:: .deq []::rest):=by
 refine fL (aRc (n:=n) (rest:=.deq []:: .deq []::rest) hP r .sp [] false p ln (wD (.bool false)) res ended r' hd ⟨rfl,rfl⟩ (.inl rfl) (by simpa using hz) he) fun ln' p' e h=> ?_
 refine⟨ln',p',e, ?_⟩
 have h:=eR hP h
 cases res with
 |none=>exact gF hP h
 |some tk=>exact mH hP h
theorem aJ7 {p:Nat} {ln:Int} (hd:l.length≤p):
  DoesCall K (n+4) (.ref 693) [.obj 0] [] (aG .none (.str "") (.isym ln)::ioO l p:: .deq []:: .deq []::rest) .none (aG .none (.str "") (.isym ln)::ioO l p:: .deq []:: .deq []::rest):=
 gF hP (eR hP (Rd.brk hP (tS hP hd) (aN1 hP) (tH hP)))
theorem aQ5 {p:Nat} {dq:List AV} {ln:Int} {r r':List Nat} {res:Option (List Nat)} {ended:Bool} (hd:Src l r p dq) (hz:r.length≤sizeLine) (he:bT .sp [] false r=some (res,ended,r')):
  ∃(ln':Int) (p':Nat) (dq':List AV),Src l r' p' dq'∧DoesCall K (n+4) (.ref 693) [.obj 0] [] (aE (.str " ") (.str "") (.isym ln)::ioO l p:: .deq []:: .deq []:: .deq dq::rest) (dK res)
   (aE (if ended then .none else .str " ") (.str "") (.isym ln')::ioO l p':: .deq []:: .deq []:: .deq dq'::rest):=by
 refine nX (aRb (n:=n) (d2:=.deq []) (d3:=.deq []) (rest:=rest) hP r .sp [] false p dq ln (wD (.bool false)) res ended r' hd ⟨rfl,rfl⟩ (.inl rfl) (by simpa using hz) he) fun ln' p' dq' e h=> ?_
 refine⟨ln',p',dq',e, ?_⟩
 have h:=eR hP h
 cases res with
 |none=>exact gE hP h
 |some tk=>exact mG hP h
theorem aJ6 {p:Nat} {ln:Int} {dq:List AV} (hd:Src l [] p dq):
  DoesCall K (n+4) (.ref 693) [.obj 0] [] (aE .none (.str "") (.isym ln)::ioO l p:: .deq []:: .deq []:: .deq dq::rest) .none (aE .none (.str "") (.isym ln)::ioO l p:: .deq []:: .deq []:: .deq dq::rest):=by
 have h:=tR (n:=n) (S:=.none) (T:=.str "") (L:=.isym ln) (d2:=.deq []) (d3:=.deq []) (rest:=rest) (qd:=false) hP (.inl rfl) hd
 obtain⟨rfl,h⟩:=h
 exact gE hP (eR hP (Rd.brk hP h (aMz hP) (tF hP)))
end
end Mine
end
section
namespace Mine
section
variable {K:Params→Frag} {n:Nat} {objs:List AO} {k:Nat} {a:AV} {xs:List AV}
theorem Rel.lst {hb:Heap} {L:Addr} {fr:List Env} {ρ:List OA} {st:AS} {s:Shared} {v:Value} (R:Rel hb L fr ρ st s) (ho:st.objs[k]?=some (.list xs)) (d:den ρ (.obj k) v):
  ∃(y:OA) (vs:List Value) (m:Nat),ρ[k]?=some y∧v= .ref y.a∧y.d=none∧s.heap.get? y.a=some {cls:=.type "list",data:=.seq vs.toArray m}∧All2 (den ρ) xs vs:=by
 refine aF fun gq hgq=> ?_
 refine aH (R.objs k _ ho) fun y hy r=> ?_
 refine aH d fun z hz q2_=> ?_;subst q2_
 rw [hy]at hz
 obtain rfl:=Option.some.inj hz
 refine kK r fun vs m a b c=> ?_
 subst hgq
 exact⟨y,vs,m,hy,rfl,a,b,c⟩
theorem dV (ho:objs[k]?=some (.list xs)) (hz:xs.length≤sizeLine):DoesCall K n (.builtin "list.append") [.obj k,a] [] objs .none (objs.set k (.list (xs++[a]))):=by
 intro x hx loc ρ vs kvs ha hk s Q E R kk
 refine aF fun gq hgq=> ?_
 cases hk
 cases ha with| @cons _ u0 _ _ d1 ha=>cases ha with| @cons _ u _ _ d2 ha=>
 cases ha
 refine gP (R.lst ho d1) fun y us m hy q4_ hd h1 h2=> ?_;subst q4_
 subst hgq
 refine to1 (call_meets F.slot_list_append ⟨_,h1,rfl⟩ F.entry_list_append (F.args_list_append_2 _ _) (list_append y.a us.toArray m u (by rw [List.size_toArray,←h2.length];exact hz)) ⟨h1, ?_⟩)
 refine kk _ _ ρ (R.turn hy (.head _) ⟨us++[u],(if(us.toArray.push u).size==us.toArray.size then m else m+1),hd, ?_,h2.append (.cons d2 .nil)⟩) (Next.turn hy (.head _)) rfl
 have:=IsL.update (show IsL s.heap y.a us.toArray m from h1) (fun z=>z.push u)
 rw [this]
 simp
end
end Mine
end
section
namespace Mine
noncomputable def AV.below (n:Nat):AV→Bool
 | .obj k=>Nat.blt k n
 |_=>true
noncomputable def AO.below (n:Nat):AO→Bool
 | .inst _ fs=>fs.all fun f=>f.2.below n
 | .list xs=>xs.all (AV.below n)
 | .tup xs=>xs.all (AV.below n)
 | .deq xs=>xs.all (AV.below n)
 | .raw _=>true
 | .fix _ _=>true
 | .flds _ xs=>xs.all (AV.below n)
noncomputable def AFlow.below (n:Nat):AFlow→Bool
 | .ret v=>v.below n
 |_=>true
theorem lD {ρ ρ':List OA} {a:AV} {v:Value} (h:a.below ρ.length=true) (d:den (ρ++ρ') a v):den ρ a v:=by
 cases a with
 |obj k=>
  refine aH d fun x hx q2_=> ?_;subst q2_
  have hk:k<ρ.length:=Nat.le_of_ble_eq_true h
  rw [List.getElem?_append_left hk]at hx
  exact⟨x,hx,rfl⟩
 |_=>exact d
theorem lY {ρ ρ':List OA} {l:List AV} {vs:List Value} (d:All2 (den (ρ++ρ')) l vs) (h:l.all (AV.below ρ.length)=true):All2 (den ρ) l vs:=by
 induction d with
 |nil=>exact .nil
 |cons p _ ih=>
  rw [List.all_cons,Bool.and_eq_true]at h
  exact .cons (lD h.1 p) (ih h.2)
theorem aJ8 {ρ ρ':List OA} {l:List (Str×AV)} {es:List DictEntry} (d:FRel (ρ++ρ') l es) (h:(l.all fun f=>f.2.below ρ.length)=true):FRel ρ l es:=by
 induction d with
 |nil=>exact .nil
 |cons p _ ih=>
  rw [List.all_cons,Bool.and_eq_true]at h
  exact .cons ⟨p.1,lD h.1 p.2⟩ (ih h.2)
theorem aIl {ρ ρ':List OA} {hp:Heap} {x:OA} {o:AO} (h:o.below ρ.length=true) (r:ORel (ρ++ρ') hp x o):ORel ρ hp x o:=by
 cases o with
 |inst C fs=>obtain⟨dx,es,n,a,b,c,d⟩:=r;exact⟨dx,es,n,a,b,c,aJ8 d h⟩
 |list xs=>obtain⟨vs,n,a,b,c⟩:=r;exact⟨vs,n,a,b,lY c h⟩
 |tup xs=>obtain⟨vs,n,a,b,c⟩:=r;exact⟨vs,n,a,b,lY c h⟩
 |deq xs=>obtain⟨vs,n,a,b,c⟩:=r;exact⟨vs,n,a,b,lY c h⟩
 |raw o=>exact r
 |fix vs n=>exact r
 |flds T xs=>obtain⟨vs,a,b,c⟩:=r;exact⟨vs,a,b,lY c h⟩
theorem aC6 {l r:List (Str×AV)} {x:Str} {a:AV} (h:look x l=some a):look x (l++r)=some a:=by
 induction l with
 |nil=>cases h
 |cons p l ih=>
  obtain⟨y,b⟩:=p
  unfold look at h
  rw [List.cons_append]
  unfold look
  cases q:sEq y x with
  |true=>rw [q]at h;exact h
  |false=>rw [q]at h;exact ih h
theorem aLf {l:List (Str×AV)} {x:Str} {a:AV} (h:look x l=some a):(x,a)∈l:=by
 induction l with
 |nil=>cases h
 |cons p l ih=>
  obtain⟨y,b⟩:=p
  unfold look at h
  split at h
  ·rename_i q;cases h;rw [sEq_iff]at q;subst q;exact .head _
  ·exact .tail _ (ih h)
section
variable {hb:Heap} {L:Addr} {fr:List Env} {ρ ρ₁ ρ₂:List OA} {loc locm:List (Str×AV)} {objs more:List AO} {s s':Shared}
theorem Rel.forget (R:Rel hb L fr (ρ₁++ρ₂) ⟨loc++locm,objs++more⟩ s) (hl:ρ₁.length=objs.length) (h1:(loc.all fun f=>f.2.below objs.length)=true) (h2:objs.all (AO.below objs.length)=true):Rel hb L fr ρ₁ ⟨loc,objs⟩ s:=by
 refine aH (R.loc) fun m hn hm=> ?_
 rw [←hl]at h1 h2
 have hA:∀a∈aS ρ₁,a∈aS (ρ₁++ρ₂):=fun a ha=>by rw [aL];exact List.mem_append_left _ ha
 refine⟨R.base,⟨m,hn,fun y a q=> ?_⟩,R.above,hl,fun k o e=> ?_, ?_,fun a ha=>R.new a (hA a ha),fun env he=> ?_,R.tk⟩
 ·refine aH (hm y a (aC6 q)) fun v e d=> ?_
  exact⟨v,e,lD (List.all_eq_true.mp h1 _ (aLf q)) d⟩
 ·have hk:k<objs.length:=(List.getElem?_eq_some_iff.mp e).1
  obtain⟨x,hx,r⟩:=R.objs k o (by show(objs++more)[k]?=_;rw [List.getElem?_append_left hk];exact e)
  rw [List.getElem?_append_left (hl▸hk)]at hx
  exact⟨x,hx,aIl (List.all_eq_true.mp h2 _ (List.mem_of_getElem? e)) r⟩
 ·have:=R.apart
  rw [aL,←List.cons_append]at this
  exact(List.nodup_append.mp this).1
 ·obtain⟨hk,L',o,es,n,a,b,c,d,e⟩:=R.frs env he
  exact⟨hk,L',o,es,n,a,b,fun q=>c (hA _ q),d,e⟩
theorem Next.forget {new:List OA} (N:Next L ρ s (ρ++(new++ρ₂)) s'):Next L ρ s (ρ++new) s':=by
 refine aH (N.ext) fun n e h=> ?_
 have:=List.append_cancel_left e
 subst this
 exact⟨⟨new,rfl,fun a ha=>h a (by rw [aL];exact List.mem_append_left _ ha)⟩,N.keep,N.gens,N.os⟩
end
theorem Tri.forget {α:Type} {x:Cx} {ρ:List OA} {st:AS} {t:Sem α} {loc locm:List (Str×AV)} {objs more:List AO} {p p':List OA→α→Prop} (h:Tri x ρ st t ⟨loc++locm,objs++more⟩ p) (hz:st.objs.length≤objs.length)
  (h1:(loc.all fun f=>f.2.below objs.length)=true) (h2:objs.all (AO.below objs.length)=true) (k:∀ρ₁ ρ₂ a,ρ₁.length=objs.length→p (ρ₁++ρ₂) a→p' ρ₁ a):Tri x ρ st t ⟨loc,objs⟩ p':=by
 intro s Q E R kk
 refine h s Q E R fun a s' ρ' R' N' pa=> ?_
 refine aH (N'.ext) fun new q1_ hx=> ?_;subst q1_
 have l1:ρ.length=st.objs.length:=R.len
 have l2:(ρ++new).length=(objs++more).length:=R'.len
 have hsp:new=new.take (objs.length - ρ.length)++new.drop (objs.length - ρ.length):=(List.take_append_drop _ _).symm
 have hlen:(ρ++new.take (objs.length - ρ.length)).length=objs.length:=by
  simp only [List.length_append,List.length_take]at l2⊢
  lia
 rw [hsp,←List.append_assoc]at R' pa
 rw [hsp]at N'
 exact kk a s' _ (R'.forget hlen h1 h2) N'.forget (k _ _ _ hlen pa)
theorem yD {ρ ρ':List OA} {a:AFlow} {v:Flow} (h:a.below ρ.length=true) (d:fden (ρ++ρ') a v):fden ρ a v:=by
 cases a with
 |ret a=>obtain⟨u,rfl,d⟩:=d;exact⟨u,rfl,lD h d⟩
 |_=>exact d
section
variable {K:Params→Frag} {n:Nat} {sc:Scope} {st:AS} {loc locm:List (Str×AV)} {objs more:List AO} {f:AFlow}
theorem DoesB.forget {l:List Stmt} (h:DoesB K n sc l st f ⟨loc++locm,objs++more⟩) (hz:st.objs.length≤objs.length)
  (h1:(loc.all fun f=>f.2.below objs.length)=true) (h2:objs.all (AO.below objs.length)=true) (hf:f.below objs.length=true):DoesB K n sc l st f ⟨loc,objs⟩:=
 fun x hx ρ=>(h x hx ρ).forget hz h1 h2 fun ρ₁ ρ₂ a hl d=>yD (by rw [hl];exact hf) d
theorem DoesS.forget {l:Stmt} (h:DoesS K n sc l st f ⟨loc++locm,objs++more⟩) (hz:st.objs.length≤objs.length)
  (h1:(loc.all fun f=>f.2.below objs.length)=true) (h2:objs.all (AO.below objs.length)=true) (hf:f.below objs.length=true):DoesS K n sc l st f ⟨loc,objs⟩:=
 fun x hx ρ=>(h x hx ρ).forget hz h1 h2 fun ρ₁ ρ₂ a hl d=>yD (by rw [hl];exact hf) d
theorem DoesE.forget {e:Expr} {v:AV} (h:DoesE K n sc e st v ⟨loc++locm,objs++more⟩) (hz:st.objs.length≤objs.length)
  (h1:(loc.all fun f=>f.2.below objs.length)=true) (h2:objs.all (AO.below objs.length)=true) (hf:v.below objs.length=true):DoesE K n sc e st v ⟨loc,objs⟩:=
 fun x hx ρ=>(h x hx ρ).forget hz h1 h2 fun ρ₁ ρ₂ a hl d=>lD (by rw [hl];exact hf) d
end
noncomputable def AV.flat:AV→Bool
 | .obj _=>false
 |_=>true
noncomputable def AO.still:AO→Bool
 | .inst _ _=>false
 | .raw _=>false
 |_=>true
noncomputable def AO.flat:AO→Bool
 | .list xs=>xs.all AV.flat
 | .tup xs=>xs.all AV.flat
 | .flds _ xs=>xs.all AV.flat
 |_=>false
theorem aCv {ρ ρ':List OA} {a:AV} {v:Value} (h:a.flat=true) (d:den ρ a v):den ρ' a v:=by
 cases a with
 |obj k=>cases h
 |_=>exact d
theorem jA {ρ ρ':List OA} {l:List AV} {vs:List Value} (d:All2 (den ρ) l vs) (h:l.all AV.flat=true):All2 (den ρ') l vs:=by
 induction d with
 |nil=>exact .nil
 |cons p _ ih=>rw [List.all_cons,Bool.and_eq_true]at h;exact .cons (aCv h.1 p) (ih h.2)
theorem aIk {ρ ρ':List OA} {hp:Heap} {x:OA} {o:AO} (h:o.flat=true) (r:ORel ρ hp x o):ORel ρ' hp x o:=by
 cases o with
 |inst C fs=>cases h
 |list xs=>obtain⟨vs,n,a,b,c⟩:=r;exact⟨vs,n,a,b,jA c h⟩
 |tup xs=>obtain⟨vs,n,a,b,c⟩:=r;exact⟨vs,n,a,b,jA c h⟩
 |deq xs=>cases h
 |raw o=>cases h
 |fix vs n=>cases h
 |flds T xs=>obtain⟨vs,a,b,c⟩:=r;exact⟨vs,a,b,jA c h⟩
theorem ORel.stillAt {ρ:List OA} {hp:Heap} {x:OA} {o:AO} (h:o.still=true) (r:ORel ρ hp x o):x.d=none∧∃ob,hp.get? x.a=some ob∧∀es n,ob.data≠ .dict es n:=by
 cases o with
 |inst C fs=>cases h
 |list xs=>obtain⟨vs,n,a,b,c⟩:=r;exact⟨a,_,b,fun es n q=>by cases q⟩
 |tup xs=>obtain⟨vs,n,a,b,c⟩:=r;exact⟨a,_,b,fun es n q=>by cases q⟩
 |deq xs=>obtain⟨vs,n,a,b,c⟩:=r;exact⟨a,_,b,fun es n q=>by cases q⟩
 |raw o=>cases h
 |fix vs n=>exact⟨r.1,_,r.2,fun es n q=>by cases q⟩
 |flds T xs=>obtain⟨vs,a,b,c⟩:=r;exact⟨a,_,b,fun es n q=>by cases q⟩
section
variable {hb:Heap} {L:Addr} {fr:List Env} {ρ:List OA} {loc:List (Str×AV)} {objs:List AO} {s s':Shared}
theorem Rel.hide (R:Rel hb L fr ρ ⟨loc,objs⟩ s):∃loc',Rel hb L fr [] ⟨loc',[]⟩ s∧∀(m':Str→Option Value) (ρ':List OA),LocRel ρ' loc' m'→LocRel ρ loc m':=by
 refine aH (R.loc) fun m hn hm=> ?_
 let loc':List (Str×AV):=loc.map fun y=>(y.1,.val ((m y.1).getD .none))
 have key:∀(l:List (Str×AV)) x,look x (l.map fun y=>(y.1,AV.val ((m y.1).getD .none)))=(look x l).map fun zz=>.val ((m x).getD .none):=by
  intro l x
  induction l with
  |nil=>rfl
  |cons p l ih=>
   obtain⟨y,b⟩:=p
   rw [List.map_cons]
   unfold look
   simp only
   cases q:sEq y x with
   |true=>rw [sEq_iff]at q;subst q;rfl
   |false=>exact ih
 refine⟨loc',⟨R.base,⟨m,hn,fun x a q=> ?_⟩,R.above,rfl,fun k o e=>by simp at e,by simp [aS],fun a ha=>by simp [aS]at ha,fun env he=> ?_,R.tk⟩,fun m' ρ' h x a q=> ?_⟩
 ·rw [show look x loc'=_ from key loc x]at q
  cases q2:look x loc with
  |none=>rw [q2]at q;cases q
  |some b=>
   rw [q2]at q
   cases q
   refine aH (hm x b q2) fun v e d=> ?_
   exact⟨v,e,by rw [e];rfl⟩
 ·obtain⟨hk,L',o,es,n,a,b,c,d,e⟩:=R.frs env he
  exact⟨hk,L',o,es,n,a,b,by simp [aS],d,e⟩
 ·refine aH (hm x a q) fun v e d=> ?_
  obtain⟨v',e',d'⟩:=h x (.val v) (by rw [show look x loc'=_ from key loc x,q,e];rfl)
  have:v'=v:=d'
  subst this
  exact⟨v',e',d⟩
theorem Rel.back (R:Rel hb L fr ρ ⟨loc,objs⟩ s) (hs:objs.all AO.still=true) {loc':List (Str×AV)} {objs':List AO} {ρ':List OA} (hloc:∀(m':Str→Option Value) (ρ':List OA),LocRel ρ' loc' m'→LocRel ρ loc m')
  (R':Rel hb L fr ρ' ⟨loc',objs'⟩ s') (N:Next L [] s ρ' s'):Rel hb L fr ρ ⟨loc,objs⟩ s'∧Next L ρ s ρ s':=by
 refine aH (R'.loc) fun m hn hm=> ?_
 have hkeep:∀(k:Nat) (o:AO) (x:OA),objs[k]?=some o→ρ[k]?=some x→ORel ρ s.heap x o→ORel ρ s'.heap x o:=fun k o x ho hx r=>by
  have st:=List.all_eq_true.mp hs _ (List.mem_of_getElem? ho)
  obtain⟨h1,ob,h2,h3⟩:=r.stillAt st
  refine r.keep fun b hb' o' e=> ?_
  rw [h1]at hb'
  simp only [Option.toList_none,List.mem_cons,List.not_mem_nil,or_false]at hb'
  subst hb'
  rw [h2]at e
  obtain rfl:=Option.some.inj e
  have hmem:x.a∈aS ρ:=List.mem_flatMap.mpr ⟨x,List.mem_of_getElem? hx,.head _⟩
  refine aH (N.keep _ _ h2 (fun q=>(List.nodup_cons.mp R.apart).1 (q▸hmem)) (by simp [aS])) fun o2 e2 kp=> ?_
  rw [e2,kp.same h3]
 refine⟨⟨R'.base,⟨m,hn,hloc m ρ' hm⟩,R.above,R.len,fun k o e=> ?_,R.apart,R.new,fun env he=> ?_,R'.tk⟩,⟨⟨[],by simp,by simp [aS]⟩,fun b o e hb hn=>N.keep b o e hb (by simp [aS]),N.gens,N.os⟩⟩
 ·refine aH (R.objs k o e) fun x hx r=> ?_
  exact⟨x,hx,hkeep k o x e hx r⟩
 ·obtain⟨hk,L',o,es,n,a,b,c,d,e⟩:=R.frs env he
  refine aF fun gq hgq=> ?_
  obtain⟨hk2,L2,o2,es2,n2,a2,b2,c2,d2,e2⟩:=R'.frs env he
  rw [a]at a2
  obtain rfl:=Option.some.inj a2
  subst hgq
  exact⟨hk,L',o2,es2,n2,a,b,c,d2,e2⟩
theorem Rel.back1 (R:Rel hb L fr ρ ⟨loc,objs⟩ s) (hs:objs.all AO.still=true) {loc':List (Str×AV)} {objs':List AO} {ρ':List OA} (hloc:∀(m':Str→Option Value) (ρ':List OA),LocRel ρ' loc' m'→LocRel ρ loc m')
  (R':Rel hb L fr ρ' ⟨loc',objs'⟩ s') (N:Next L [] s ρ' s') {k:Nat} {o:AO} {x:OA} (ho:objs'[k]?=some o) (hx:ρ'[k]?=some x) (hf:o.flat=true):
  Rel hb L fr (ρ++[x]) ⟨loc,objs++[o]⟩ s'∧Next L ρ s (ρ++[x]) s':=by
 refine aF fun gq hgq=> ?_
 refine cK (R.back hs hloc R' N) fun B N1=> ?_
 refine aH (R'.objs k o ho) fun x' hx' r=> ?_
 rw [hx]at hx'
 obtain rfl:=Option.some.inj hx'
 subst hgq
 have ax:aS [x]=x.a::x.d.toList:=by simp [aS]
 have hsub:∀a∈aS [x],a∈aS ρ':=fun a ha=>by
  rw [ax]at ha
  exact List.mem_flatMap.mpr ⟨x,List.mem_of_getElem? hx,ha⟩
 have hfresh:∀a∈aS [x],∀o,s.heap.get? a=some o→a=L:=fun a ha o e=>by
  refine aH (N.ext) fun new e2 h=> ?_
  rw [List.nil_append]at e2
  subst e2
  rcases h a (hsub a ha) o e with q|q
  ·exact q
  ·simp [aS]at q
 have hL:L∉aS [x]:=fun q=>(List.nodup_cons.mp R'.apart).1 (hsub _ q)
 have hnd:(aS [x]).Nodup:=by
  refine iK (List.append_of_mem (List.mem_of_getElem? hx)) fun l1 l2 e=> ?_
  have:=(List.nodup_cons.mp R'.apart).2
  rw [e,aL]at this
  have:=(List.nodup_append.mp this).2.1
  rw [show x::l2=[x]++l2 from rfl,aL]at this
  exact(List.nodup_append.mp this).1
 refine aH (B.loc) fun m hn hm=> ?_
 refine⟨⟨B.base,⟨m,hn,hm.mono⟩,R.above,by simp [show ρ.length=objs.length from R.len],fun i o' e=> ?_, ?_,fun a ha=> ?_,fun env he=> ?_,B.tk⟩,⟨⟨[x],rfl,fun a ha o e=>.inl (hfresh a ha o e)⟩,N1.keep,N1.gens,N1.os⟩⟩
 ·by_cases q:i<objs.length
  ·simp only at e
   rw [List.getElem?_append_left q]at e
   refine aH (B.objs i o' e) fun y hy ry=> ?_
   exact⟨y,by rw [List.getElem?_append_left (by rw [show ρ.length=objs.length from R.len];exact q)];exact hy,ry.mono fun zz zz zz e=>e⟩
  ·simp only at e
   have hl:ρ.length=objs.length:=R.len
   rw [List.getElem?_append_right (Nat.le_of_not_lt q)]at e
   have hi:i - objs.length=0:=by
    have:=(List.getElem?_eq_some_iff.mp e).1
    simp only [List.length_singleton]at this
    lia
   rw [hi]at e
   simp only [List.getElem?_cons_zero,Option.some.injEq]at e
   subst e
   refine⟨x, ?_,aIk hf r⟩
   rw [List.getElem?_append_right (by lia),hl,hi]
   rfl
 ·rw [aL]
  have h1:=List.nodup_cons.mp R.apart
  refine List.nodup_cons.mpr ⟨fun q=> ?_,List.nodup_append.mpr ⟨h1.2,hnd,fun a ha b hb2 e=> ?_⟩⟩
  ·rcases List.mem_append.mp q with q|q
   ·exact h1.1 q
   ·exact hL q
  ·subst e
   refine cB (R.at_some a ha) fun oa ea=> ?_
   have:=hfresh a hb2 oa ea
   subst this
   exact hL hb2
 ·rw [aL,List.mem_append]at ha
  rcases ha with ha|ha
  ·exact R.new a ha
  ·exact R'.new a (hsub a ha)
 ·obtain⟨hk,L',o2,es,n,a,b,c,d,e⟩:=B.frs env he
  refine aF fun gq hgq=> ?_
  obtain⟨hk2,L2,o3,es2,n2,a2,b2,c2,d2,e2⟩:=R'.frs env he
  rw [a]at a2
  obtain rfl:=Option.some.inj a2
  subst hgq
  refine⟨hk,L',o2,es,n,a,b,fun q=> ?_,d,e⟩
  rw [aL,List.mem_append]at q
  rcases q with q|q
  ·exact c q
  ·exact c2 (hsub _ q)
end
section
variable {K:Params→Frag} {n:Nat} {u:Value} {args:List AV} {objs objs':List AO} {v:AV} {k:Nat} {o:AO}
theorem DoesCall.frame (h:DoesCall K n u args [] [] v objs') (ha:args.all AV.flat=true) (hv:v.flat=true) (hs:objs.all AO.still=true):DoesCall K n u args [] objs v objs:=by
 intro x hx loc ρ vs kvs da dk s Q E R kk
 cases dk
 refine aH (R.hide) fun loc' R' hloc=> ?_
 refine h x hx loc' [] vs [] (jA da ha) .nil s Q E R' fun r s' ρ' R2 N2 d=> ?_
 refine cK (R.back hs hloc R2 N2) fun B N=> ?_
 exact kk r s' ρ B N (aCv hv d)
theorem DoesCall.frame1 (h:DoesCall K n u args [] [] (.obj k) objs') (ha:args.all AV.flat=true) (ho:objs'[k]?=some o) (hf:o.flat=true) (hs:objs.all AO.still=true):DoesCall K n u args [] objs (.obj objs.length) (objs++[o]):=by
 intro x hx loc ρ vs kvs da dk s Q E R kk
 cases dk
 refine aH (R.hide) fun loc' R' hloc=> ?_
 refine h x hx loc' [] vs [] (jA da ha) .nil s Q E R' fun r s' ρ' R2 N2 d=> ?_
 refine aH d fun y hy q2_=> ?_;subst q2_
 refine cK (R.back1 hs hloc R2 N2 ho hy hf) fun B N=> ?_
 exact kk _ s' _ B N ⟨y,by rw [←show ρ.length=objs.length from R.len];simp,rfl⟩
end
end Mine
end
section
namespace Mine
structure Untold (x:Cx) (ρ:List OA) (b:Addr):Prop where
 base:x.hb.get? b=none
 loc:b≠x.L
 obj:b∉aS ρ
section
variable {x:Cx} {ρ ρ':List OA} {st:AS} {s s' s₀:Shared} {b:Addr}
noncomputable def HExt (is:List Addr) (h h':Heap):Prop:=∀b o,b∉is→h.get? b=some o→h'.get? b=some o
theorem HExt.one {b:Addr} {h h':Heap} (e:Heap.ExtBut b h h'):HExt [b] h h':=fun c o hc ho=>e c o (fun q=>hc (by rw [q];exact .head _)) ho
noncomputable def aQj (s:Shared) (b:Addr):Prop:=∀o,s.heap.get? b=some o→∀es n,o.data≠ .dict es n
theorem Rel.touch (R:Rel x.hb x.L x.fr ρ st s) {is:List Addr} (U:∀b∈is,Untold x ρ b) (hb:∀b∈is,aQj s b) {h':Heap} (hs:HExt is s.heap h') {t:Nat} (ht:0<t):Rel x.hb x.L x.fr ρ st {s with heap:=h',toks:=t}:=by
 refine aH (R.loc) fun m hn hl=> ?_
 refine⟨fun c o e=>hs c o (fun q=>cZ e (U c q).base rfl) (R.base c o e),⟨m, ?_,hl⟩,R.above,R.len,fun i o e=> ?_,R.apart,R.new,fun env he=> ?_,ht⟩
 ·refine nX hn fun oL es n h1 h2=> ?_
  exact⟨oL,es,n,hs _ _ (fun q=>(U _ q).loc rfl) h1,h2⟩
 ·refine aH (R.objs i o e) fun y hy r=> ?_
  exact⟨y,hy,r.keep fun c hc oc ec=>hs c oc (fun q=>(U c q).obj (List.mem_flatMap.mpr ⟨y,List.mem_of_getElem? hy,hc⟩)) ec⟩
 ·obtain⟨hk,L',o',es,n,a,b',c,d,e⟩:=R.frs env he
  exact⟨hk,L',o',es,n,a,b',c,hs _ _ (fun q=>hb _ q _ d _ _ e) d,e⟩
structure NextX (is:List Addr) (L:Addr) (ρ:List OA) (s:Shared) (ρ':List OA) (s':Shared):Prop where
 ext:∃new,ρ'=ρ++new∧∀a∈aS new,∀o,s.heap.get? a=some o→a=L∨a∈aS ρ
 keep:∀b o,s.heap.get? b=some o→b≠L→b∉aS ρ→b∉is→KeptAt s'.heap b o
 gens:s'.gens=s.gens
 os:s'.os=s.os
theorem NextX.refl (is:List Addr) (L:Addr) (ρ:List OA) (s:Shared):NextX is L ρ s ρ s:=⟨⟨[],by simp,by simp [aS]⟩,fun zz zz e zz zz zz=>.of e,rfl,rfl⟩
theorem NextX.to {is:List Addr} {L:Addr} (N:NextX is L ρ s ρ' s'):Ext ρ ρ':=let ⟨n,h,_⟩:=N.ext;⟨n,h⟩
theorem NextX.next {is:List Addr} {L:Addr} {ρ₂:List OA} {s₂:Shared} (X:NextX is L ρ s ρ' s') (hi:∀b∈is,b∉aS ρ₂) (N:Next L ρ' s' ρ₂ s₂):NextX is L ρ s ρ₂ s₂:=by
 refine aF fun gq hgq=> ?_
 obtain⟨⟨n1,rfl,h1⟩,k1,g1,o1⟩:=X
 obtain⟨⟨n2,rfl,h2⟩,k2,g2,o2⟩:=N
 subst hgq
 refine⟨⟨n1++n2,by simp,fun a ha o e=> ?_⟩,fun b o e hb hn hx=> ?_,g2.trans g1,o2.trans o1⟩
 ·rw [aL,List.mem_append]at ha
  rcases ha with ha|ha
  ·exact h1 a ha o e
  ·by_cases q:a=L
   ·exact .inl q
   ·by_cases q2:a∈aS ρ
    ·exact .inr q2
    ·by_cases q3:a∈is
     ·exact absurd (by rw [aL];exact List.mem_append_right _ ha) (hi a q3)
     ·refine aH (k1 a o e q q2 q3) fun o' e' zz=> ?_
      rcases h2 a ha o' e' with z|z
      ·exact .inl z
      ·rw [aL,List.mem_append]at z
       rcases z with z|z
       ·exact .inr z
       ·exact h1 a z o e
 ·refine aH (k1 b o e hb hn hx) fun o' e' x'=> ?_
  obtain⟨o'',e'',x''⟩:=k2 b o' e' hb fun q=>by
   rw [aL,List.mem_append]at q
   rcases q with q|q
   ·exact hn q
   ·rcases h1 b q o e with z|z
    ·exact hb z
    ·exact hn z
  exact⟨o'',e'',x'.trans x''⟩
theorem NextX.touch {is:List Addr} {L:Addr} (X:NextX is L ρ s ρ' s') {h':Heap} (hs:HExt is s'.heap h') (t:Nat):NextX is L ρ s ρ' {s' with heap:=h',toks:=t}:=
 ⟨X.ext,fun b o e h1 h2 h3=>let ⟨o',e',k⟩:=X.keep b o e h1 h2 h3;⟨o',hs b o' h3 e',k⟩,X.gens,X.os⟩
theorem NextX.close {is:List Addr} {L:Addr} {ρ₁:List OA} {s₁:Shared} (N:Next L ρ₁ s₁ ρ s) (X:NextX is L ρ s ρ' s') (hi:∀b∈is,s₁.heap.get? b=none):Next L ρ₁ s₁ ρ' s':=by
 refine aF fun gq hgq=> ?_
 obtain⟨⟨n1,rfl,h1⟩,k1,g1,o1⟩:=N
 obtain⟨⟨n2,rfl,h2⟩,k2,g2,o2⟩:=X
 subst hgq
 have hne:∀b o,s₁.heap.get? b=some o→b∉is:=fun b o e q=>by rw [hi b q]at e;cases e
 refine⟨⟨n1++n2,by simp,fun a ha o e=> ?_⟩,fun b o e hb hn=> ?_,g2.trans g1,o2.trans o1⟩
 ·rw [aL,List.mem_append]at ha
  rcases ha with ha|ha
  ·exact h1 a ha o e
  ·by_cases q:a=L
   ·exact .inl q
   ·by_cases q2:a∈aS ρ₁
    ·exact .inr q2
    ·refine aH (k1 a o e q q2) fun o' e' zz=> ?_
     rcases h2 a ha o' e' with z|z
     ·exact .inl z
     ·rw [aL,List.mem_append]at z
      rcases z with z|z
      ·exact .inr z
      ·exact h1 a z o e
 ·refine aH (k1 b o e hb hn) fun o' e' x'=> ?_
  obtain⟨o'',e'',x''⟩:=k2 b o' e' hb (fun q=>by
   rw [aL,List.mem_append]at q
   rcases q with q|q
   ·exact hn q
   ·rcases h1 b q o e with z|z
    ·exact hb z
    ·exact hn z) (hne b o e)
  exact⟨o'',e'',x'.trans x''⟩
theorem Untold.next (U:Untold x ρ b) (N:Next x.L ρ s ρ' s') (hb:∃o,s.heap.get? b=some o):Untold x ρ' b:=by
 refine cB hb fun o ho=> ?_
 refine aH (N.ext) fun new q1_ h=> ?_;subst q1_
 refine⟨U.base,U.loc,fun q=> ?_⟩
 rw [aL,List.mem_append]at q
 rcases q with q|q
 ·exact U.obj q
 ·rcases h b q o ho with z|z
  ·exact U.loc z
  ·exact U.obj z
theorem Rel.fresh (R:Rel x.hb x.L x.fr ρ st s) {a:Addr} (h:s.heap.get? a=none):Untold x ρ a:=by
 refine⟨?_,fun q=> ?_,fun q=> ?_⟩
 ·cases q:x.hb.get? a with
  |none=>rfl
  |some o=>rw [R.base a o q]at h;cases h
 ·refine cB (R.at_L) fun zz e=> ?_
  rw [q,e]at h;cases h
 ·refine cB (R.at_some a q) fun zz e=> ?_
  rw [e]at h;cases h
end
noncomputable def vT (is:List Addr) (P:List OA→Shared→Prop):Prop:=∀ρ s h' t,P ρ s→HExt is s.heap h'→P ρ {s with heap:=h',toks:=t}
structure Iter (x:Cx) (it:Value) (is:List Addr) (good:AS→Prop) (J:List AV→List OA→Shared→Prop):Prop where
 step:∀a as P ρ st s (Q:Option Value→Shared→Prop) (E:Value→Shared→Prop),vT is P→Rel x.hb x.L x.fr ρ st s→P ρ s→good st→J (a::as) ρ s→
  (∀v s',Rel x.hb x.L x.fr ρ st s'→P ρ s'→den ρ a v→J as ρ s'→Q (some v) s')→wpAny (mx x) x.A (pyNext it) Q E s
 stop:∀P ρ st s (Q:Option Value→Shared→Prop) (E:Value→Shared→Prop),vT is P→Rel x.hb x.L x.fr ρ st s→P ρ s→good st→J [] ρ s→
  (∀s',Rel x.hb x.L x.fr ρ st s'→P ρ s'→Q none s')→wpAny (mx x) x.A (pyNext it) Q E s
 keep:∀as ρ ρ' s s',J as ρ s→Next x.L ρ s ρ' s'→J as ρ' s'
 un:∀as ρ s,J as ρ s→∀b∈is,b∉aS ρ
 again:∀as ρ s (Q:Value→Shared→Prop) (E:Value→Shared→Prop),J as ρ s→Q it s→wpAny (mx x) x.A (pyIter it) Q E s
noncomputable def hO (K:Params→Frag) (n:Nat) (v:AV) (as:List AV) (st:AS) (good:AS→Prop):Prop:=
 ∀x:Cx,x.Run K n→∀ρ u s (Q:Value→Shared→Prop) (E:Value→Shared→Prop),Rel x.hb x.L x.fr ρ st s→den ρ v u→
  (∀it is s',Rel x.hb x.L x.fr ρ st s'→Next x.L ρ s ρ s'→(∀i∈is,Untold x ρ i)→(∀i∈is,(∃o,s'.heap.get? i=some o)∧s.heap.get? i=none)→
   (∀x':Cx,x'.w=x.w→x'.A=x.A→∃J,Iter x' it is good J∧∀ρ' s'',(∀b o,s'.heap.get? b=some o→s''.heap.get? b=some o)→Ext ρ ρ'→(∀i∈is,Untold x' ρ' i)→J as ρ' s'')→Q it s')→wpAny (mx x) x.A (pyIter u) Q E s
theorem Heap.kept_iter {h:Heap} {a l:Addr} {i:Nat} {s':Heap} (hit:h.IsListIter a l i) (k:∀o,h.get? a=some o→KeptAt s' a o):s'.IsListIter a l i:=by
 refine iR hit fun o h1 h2 h3=> ?_
 refine aH (k o h1) fun o' e kp=> ?_
 exact⟨o',e,kp.cls.trans h2,kp.data.trans h3⟩
theorem Heap.kept_titer {h:Heap} {a l:Addr} {i:Nat} {s':Heap} (hit:h.IsTupleIter a l i) (k:∀o,h.get? a=some o→KeptAt s' a o):s'.IsTupleIter a l i:=by
 refine iR hit fun o h1 h2 h3=> ?_
 refine aH (k o h1) fun o' e kp=> ?_
 exact⟨o',e,kp.cls.trans h2,kp.data.trans h3⟩
theorem pA {s:Shared} {b:Addr} {o:Obj} {vs:Array Value} (h:s.heap.get? b=some o) (hd:o.data= .fields vs):∀c∈ [b],aQj s c:=by
 intro c hc o' e es n q
 have:c=b:=by simpa using hc
 subst this
 rw [h]at e
 obtain rfl:=Option.some.inj e
 rw [hd]at q
 cases q
theorem All2.at {α β:Type} {P:α→β→Prop} {l:List α} {r:List β} (h:All2 P l r):∀{k:Nat} {a:α},l[k]?=some a→∃b,r[k]?=some b∧P a b:=by
 induction h with
 |nil=>intro k a e;simp at e
 |cons p h ih=>
  intro k a e
  cases k with
  |zero=>simp only [List.getElem?_cons_zero,Option.some.injEq]at e;subst e;exact⟨_,rfl,p⟩
  |succ k=>rw [List.getElem?_cons_succ]at e⊢;exact ih e
theorem pE {α:Type} {xs:List α} {i:Nat} {a:α} {as:List α} (h:a::as=xs.drop i):xs[i]?=some a∧as=xs.drop (i+1):=by
 constructor
 ·have:(xs.drop i)[0]?=some a:=by rw [←h];rfl
  rw [List.getElem?_drop]at this
  simpa using this
 ·rw [←List.tail_drop,←h];rfl
theorem gW {ρ ρ':List OA} {k:Nat} {y:OA} (h:Ext ρ ρ') (e:ρ[k]?=some y):ρ'[k]?=some y:=by
 refine cB h fun n q1_=> ?_;subst q1_
 rw [List.getElem?_append_left (List.getElem?_eq_some_iff.mp e).1];exact e
section
variable {K:Params→Frag} {n k:Nat} {xs:List AV} {st:AS}
theorem eH (ho:st.objs[k]?=some (.list xs)):hO K n (.obj k) xs st (fun st'=>st'.objs[k]?=some (.list xs)):=by
 intro x hx ρ u s Q E R d kk
 refine gP (R.lst ho d) fun y vs m hy q4_ hd h1 h2=> ?_;subst q4_
 have hl:s.heap.IsList y.a vs.toArray:=⟨_,h1,rfl,_,rfl⟩
 refine to1 (wpAny_pyIter_list hl ?_)
 have hnew:s.heap.get? s.heap.objs.size=none:=Heap.get?_none_of_le (Nat.le_refl _)
 have U:=R.fresh hnew
 have G:=R.grow (h':=s.heap.push {cls:=.type "list_iterator",data:=.fields #[.ref y.a,.int 0 0]}) fun b o e=>Heap.get?_push_of_some _ e
 refine kk _ [s.heap.objs.size] _ G (.grow fun b o e=>Heap.get?_push_of_some _ e) (by simpa using U) (by simpa using ⟨⟨_,Heap.get?_push_size _ rfl⟩,hnew⟩) fun x' hw hA=> ?_
 have hh:x'.A.handled=none:=by rw [hA];exact hx.handled
 let J:List AV→List OA→Shared→Prop:=fun as ρ' s'=>∃i,Untold x' ρ' s.heap.objs.size∧s'.heap.IsListIter s.heap.objs.size y.a i∧ρ'[k]?=some y∧as=xs.drop i
 refine⟨J,⟨?_, ?_, ?_, ?_, ?_⟩,fun ρ' s'' hk hE hU=>⟨0,hU _ (.head _),⟨_,hk _ _ (Heap.get?_push_size _ rfl),rfl,rfl⟩,gW hE hy,rfl⟩⟩
 ·rintro a as P ρ' st' s' Q' E' TP R' N' hg ⟨i,U',hit,hy',he⟩ k'
  refine aF fun gq hgq=> ?_
  refine cK (pE he) fun e1 e2=> ?_
  refine gP (R'.lst hg (v:=.ref y.a) ⟨y,hy',rfl⟩) fun y' vs' m' hy2 hr hd' h1' h2'=> ?_
  rw [hy']at hy2
  obtain rfl:=Option.some.inj hy2
  refine aH (h2'.at e1) fun v hv dv=> ?_
  subst hgq
  refine to1 (wpAny_pyNext_list_item hit ⟨_,h1',rfl,_,rfl⟩ (by simpa using hv) fun h' hit' hs'=> ?_)
  refine iR hit fun oi hoi zz hdi=> ?_
  exact k' v _ (R'.touch (by simpa using U') (pA hoi hdi) (.one hs'.extBut) R'.tk) (TP _ _ _ _ N' (.one hs'.extBut)) dv ⟨i+1,U',hit',hy',e2⟩
 ·rintro P ρ' st' s' Q' E' TP R' N' hg ⟨i,U',hit,hy',he⟩ k'
  refine gP (R'.lst hg (v:=.ref y.a) ⟨y,hy',rfl⟩) fun y' vs' m' hy2 hr hd' h1' h2'=> ?_
  rw [hy']at hy2
  obtain rfl:=Option.some.inj hy2
  have hlen:=h2'.length
  have hle:xs.length≤i:=List.drop_eq_nil_iff.mp he.symm
  refine to1 (wpAny_pyNext_list_end hh hit ⟨_,h1',rfl,_,rfl⟩ (by simp only [List.getElem?_toArray,List.getElem?_eq_none_iff];omega) fun h' hs'=> ?_)
  refine iR hit fun oi hoi zz hdi=> ?_
  exact k' _ (R'.touch (by simpa using U') (pA hoi hdi) (.one hs') R'.tk) (TP _ _ _ _ N' (.one hs'))
 ·rintro as ρ' ρ'' s' s'' ⟨i,U',hit,hy',he⟩ N
  have hex:∃o,s'.heap.get? s.heap.objs.size=some o:=let ⟨o,e,_⟩:=hit;⟨o,e⟩
  exact⟨i,U'.next N hex,Heap.kept_iter hit fun o e=>N.keep _ o e U'.loc U'.obj,gW N.to hy',he⟩
 ·rintro as ρ' s' ⟨i,U',hit,hy',he⟩
  simpa using U'.obj
 ·rintro as ρ' s' Q' E' ⟨i,U',hit,hy',he⟩ hq
  exact to1 (wpAny_pyIter_listiter hit hq)
theorem Rel.tpl {hb:Heap} {L:Addr} {fr:List Env} {ρ:List OA} {st:AS} {s:Shared} {v:Value} (R:Rel hb L fr ρ st s) (ho:st.objs[k]?=some (.tup xs)) (d:den ρ (.obj k) v):
  ∃(y:OA) (vs:List Value) (m:Nat),ρ[k]?=some y∧v= .ref y.a∧y.d=none∧s.heap.get? y.a=some {cls:=.type "tuple",data:=.seq vs.toArray m}∧All2 (den ρ) xs vs:=by
 refine aF fun gq hgq=> ?_
 refine aH (R.objs k _ ho) fun y hy r=> ?_
 refine aH d fun z hz q2_=> ?_;subst q2_
 rw [hy]at hz
 obtain rfl:=Option.some.inj hz
 refine kK r fun vs m a b c=> ?_
 subst hgq
 exact⟨y,vs,m,hy,rfl,a,b,c⟩
theorem aLk (ho:st.objs[k]?=some (.tup xs)):hO K n (.obj k) xs st (fun st'=>st'.objs[k]?=some (.tup xs)):=by
 intro x hx ρ u s Q E R d kk
 refine gP (R.tpl ho d) fun y vs m hy q4_ hd h1 h2=> ?_;subst q4_
 have hl:s.heap.IsTuple y.a vs.toArray:=⟨_,h1,rfl,_,rfl⟩
 refine to1 (wpAny_pyIter_tuple hl ?_)
 have hnew:s.heap.get? s.heap.objs.size=none:=Heap.get?_none_of_le (Nat.le_refl _)
 have U:=R.fresh hnew
 have G:=R.grow (h':=s.heap.push {cls:=.type "tuple_iterator",data:=.fields #[.ref y.a,.int 0 0]}) fun b o e=>Heap.get?_push_of_some _ e
 refine kk _ [s.heap.objs.size] _ G (.grow fun b o e=>Heap.get?_push_of_some _ e) (by simpa using U) (by simpa using ⟨⟨_,Heap.get?_push_size _ rfl⟩,hnew⟩) fun x' hw hA=> ?_
 have hh:x'.A.handled=none:=by rw [hA];exact hx.handled
 let J:List AV→List OA→Shared→Prop:=fun as ρ' s'=>∃i,Untold x' ρ' s.heap.objs.size∧s'.heap.IsTupleIter s.heap.objs.size y.a i∧ρ'[k]?=some y∧as=xs.drop i
 refine⟨J,⟨?_, ?_, ?_, ?_, ?_⟩,fun ρ' s'' hk hE hU=>⟨0,hU _ (.head _),⟨_,hk _ _ (Heap.get?_push_size _ rfl),rfl,rfl⟩,gW hE hy,rfl⟩⟩
 ·rintro a as P ρ' st' s' Q' E' TP R' N' hg ⟨i,U',hit,hy',he⟩ k'
  refine aF fun gq hgq=> ?_
  refine cK (pE he) fun e1 e2=> ?_
  refine gP (R'.tpl hg (v:=.ref y.a) ⟨y,hy',rfl⟩) fun y' vs' m' hy2 hr hd' h1' h2'=> ?_
  rw [hy']at hy2
  obtain rfl:=Option.some.inj hy2
  refine aH (h2'.at e1) fun v hv dv=> ?_
  subst hgq
  refine to1 (wpAny_pyNext_tuple_item hit ⟨_,h1',rfl,_,rfl⟩ (by simpa using hv) fun h' hit' hs'=> ?_)
  refine iR hit fun oi hoi zz hdi=> ?_
  exact k' v _ (R'.touch (by simpa using U') (pA hoi hdi) (.one hs'.extBut) R'.tk) (TP _ _ _ _ N' (.one hs'.extBut)) dv ⟨i+1,U',hit',hy',e2⟩
 ·rintro P ρ' st' s' Q' E' TP R' N' hg ⟨i,U',hit,hy',he⟩ k'
  refine gP (R'.tpl hg (v:=.ref y.a) ⟨y,hy',rfl⟩) fun y' vs' m' hy2 hr hd' h1' h2'=> ?_
  rw [hy']at hy2
  obtain rfl:=Option.some.inj hy2
  have hlen:=h2'.length
  have hle:xs.length≤i:=List.drop_eq_nil_iff.mp he.symm
  refine to1 (wpAny_pyNext_tuple_end hh hit ⟨_,h1',rfl,_,rfl⟩ (by simp only [List.getElem?_toArray,List.getElem?_eq_none_iff];omega) fun h' hs'=> ?_)
  refine iR hit fun oi hoi zz hdi=> ?_
  exact k' _ (R'.touch (by simpa using U') (pA hoi hdi) (.one hs') R'.tk) (TP _ _ _ _ N' (.one hs'))
 ·rintro as ρ' ρ'' s' s'' ⟨i,U',hit,hy',he⟩ N
  have hex:∃o,s'.heap.get? s.heap.objs.size=some o:=let ⟨o,e,_⟩:=hit;⟨o,e⟩
  exact⟨i,U'.next N hex,Heap.kept_titer hit fun o e=>N.keep _ o e U'.loc U'.obj,gW N.to hy',he⟩
 ·rintro as ρ' s' ⟨i,U',hit,hy',he⟩
  simpa using U'.obj
 ·rintro as ρ' s' Q' E' ⟨i,U',hit,hy',he⟩ hq
  refine to1 (wpAny_pyIter_slot hit.typeIs F.slot_tuple_iterator_iter (wpAny_call_entry F.slot_tuple_iterator_iter hit.typeIs F.entry_tuple_iterator_iter ?_ (F.args_tuple_iterator_iter_1 _)))
  show wpAny _ _ (ret (.ref _)) _ _ s'
  exact wpAny_pure ⟨_,rfl,"tuple_iterator",_,hit.typeIs,F.slot_tuple_iterator_next.lookup,hq⟩
end
inductive Turns (K:Params→Frag) (n:Nat) (sc:Scope) (y:Str) (body:List Stmt) (good:AS→Prop):List AV→AS→AS→Prop
 |nil {st}:Turns K n sc y body good [] st st
 |cons {a as st st₁ st₂ g}:DoesB K n sc body ⟨put y a st.loc,st.objs⟩ g st₁→zV g=true→good st₁→Turns K n sc y body good as st₁ st₂→Turns K n sc y body good (a::as) st st₂
section
variable {K:Params→Frag} {n:Nat} {sc:Scope} {y:Str} {body:List Stmt} {good:AS→Prop} {iter:Expr} {v:AV} {st st₁ st₂:AS} {as:List AV} {p pos:Pos}
theorem aJ9 {x:Cx} (hx:x.Ok K n sc) (hk:sc.names.lookup y=some .local) {it:Value} {is:List Addr} {J:List AV→List OA→Shared→Prop} (I:Iter x it is good J) {as:List AV} {st st':AS} (T:Turns K n sc y body good as st st'):
  ∀{ρ₀ ρ:List OA} {s₀ s:Shared} {R:Result→Shared→Prop},Rel x.hb x.L x.fr ρ st s→NextX is x.L ρ₀ s₀ ρ s→good st→J as ρ s→
   (∀s' ρ',Rel x.hb x.L x.fr ρ' st' s'→NextX is x.L ρ₀ s₀ ρ' s'→R (.ok .next) s')→codeAny (mx x) x.A (.forLoop (.Name y p) it body [] x.env) R s:=by
 have TP:∀ρ₀ s₀,vT is (NextX is x.L ρ₀ s₀):=fun ρ₀ s₀ ρ s h' t N h=>N.touch h t
 induction T with
 |nil=>
  intro ρ₀ ρ s₀ s R RR N hg hJ kk
  refine yK (I.stop _ _ _ _ _ _ (TP ρ₀ s₀) RR N hg hJ fun s' R' N'=>rN ?_)
  rw [arm_execs_nil]
  exact wpAny_pure (kk s' _ R' N')
 | @cons a as st st₁ st₂ g hb hg1 hgood T ih=>
  intro ρ₀ ρ s₀ s R RR N hg hJ kk
  refine yK (I.step _ _ _ _ _ _ _ _ (TP ρ₀ s₀) RR N hg hJ fun v s' R' N' d hJ'=> ?_)
  show wpAny _ _ (letOwnedTupleGo (.Name y p) it v) _ _ _
  rw [show letOwnedTupleGo (.Name y p) it v=pure ()from rfl]
  refine wpAny_pure ?_
  show wpAny _ _ (do standAt p;bindName x.env y v) _ _ _
  refine wpAny_bind (wpAny_standAt ((cI hx hk d) s' _ _ R' fun zz s₂ ρ₂ R₂ N₂ zz=> ?_))
  refine hb x hx ρ₂ s₂ _ _ R₂ fun f s₃ ρ₃ R₃ N₃ hf=> ?_
  have hJ2:=I.keep _ _ _ _ _ hJ' N₂
  have hJ3:=I.keep _ _ _ _ _ hJ2 N₃
  have go:=ih (R:=R) R₃ ((N'.next (I.un _ _ _ hJ2) N₂).next (I.un _ _ _ hJ3) N₃) hgood hJ3 kk
  cases g with
  |next=>have:f= .next:=hf;subst this;exact go
  |cont=>have:f= .cont:=hf;subst this;exact go
  |brk=>cases hg1
  |ret _=>cases hg1
theorem lX (hs:∀env x,foldedSetIterable iter env x=pure x) (hk:sc.names.lookup y=some .local) (h:DoesE K n sc iter st v st₁) (hi:hO K n v as st₁ good) (hg:good st₁) (T:Turns K n sc y body good as st₁ st₂):
  DoesS K n sc (.For (.Name y p) iter body [] pos) st .next st₂:=fun x hx ρ s Q E R kk=>by
 refine wpAny_For (h x hx ρ s _ _ R fun u s₁ ρ₁ R₁ N₁ d=> ?_) (hs x.env)
 refine hi x hx.toRun ρ₁ u s₁ _ _ R₁ d fun it is s₂ R₂ N₂ U hno F=> ?_
 refine aH (F x rfl rfl) fun J I hJ=> ?_
 exact aJ9 hx hk I T R₂ (.refl ..) hg (hJ _ _ (fun zz zz e=>e) (.refl _) U) fun s' ρ' R' N'=>kk _ s' ρ' R' (N₁.trans (N'.close N₂ fun b hb=>(hno b hb).2)) rfl
end
end Mine
end
section
namespace Mine
section
variable {hb:Heap} {L C:Addr} {fr:List Env} {ρ ρ':List OA} {st st':AS} {s s' s₁:Shared}
theorem Rel.enter (R:Rel hb L fr ρ st s) {h':Heap} {m:Str→Option Value} (hn:h'.Ns C m) (hk:∀b o,s.heap.get? b=some o→h'.get? b=some o) (hnew:s.heap.get? C=none) {t:Nat} (ht:0<t):Rel hb C fr ρ ⟨[],st.objs⟩ {s with heap:=h',toks:=t}:=by
 have G:=R.grow hk
 refine⟨G.base,⟨m,hn,fun y a q=>by cases q⟩, ?_,R.len,G.objs,List.nodup_cons.mpr ⟨fun q=> ?_,(List.nodup_cons.mp R.apart).2⟩,R.new,G.frs,ht⟩
 ·cases q:hb.get? C with
  |none=>rfl
  |some o=>rw [R.base C o q]at hnew;cases hnew
 ·refine cB (R.at_some C q) fun o e=> ?_
  rw [e]at hnew;cases hnew
theorem Rel.touchC {x:Cx} (R:Rel x.hb x.L x.fr ρ st s) (U:Untold x ρ C) (hF:∀env∈x.fr,env.frame≠some C) {h':Heap} (hs:Heap.SameBut C s.heap h'):Rel x.hb x.L x.fr ρ st {s with heap:=h'}:=by
 refine aH (R.loc) fun m hn hl=> ?_
 refine⟨fun c o e=>(hs.2 c (cZ e U.base)).trans (R.base c o e),⟨m,hn.sameBut hs (Ne.symm U.loc),hl⟩,R.above,R.len,fun i o e=> ?_,R.apart,R.new,fun env he=> ?_,R.tk⟩
 ·refine aH (R.objs i o e) fun y hy r=> ?_
  exact⟨y,hy,r.keep fun c hc oc ec=>(hs.2 c (fun q=>U.obj (q▸List.mem_flatMap.mpr ⟨y,List.mem_of_getElem? hy,hc⟩))).trans ec⟩
 ·obtain⟨hk,L',o',es,n,a,b',c,d,e⟩:=R.frs env he
  exact⟨hk,L',o',es,n,a,b',c,(hs.2 L' fun q=>hF env he (by rw [a,q])).trans d,e⟩
theorem Next.touchC (N:Next L ρ s ρ' s') (hC:s.heap.get? C=none) {h':Heap} (hs:Heap.SameBut C s'.heap h'):Next L ρ s ρ' {s' with heap:=h'}:=
 ⟨N.ext,fun b o e h1 h2=>let ⟨o',e',k⟩:=N.keep b o e h1 h2;⟨o',(hs.2 b (cZ e hC)).trans e',k⟩,N.gens,N.os⟩
theorem Rel.leave (R:Rel hb L fr ρ st s) {is:List Addr} (hL':L∉is) (hk:∀b o,s.heap.get? b=some o→s₁.heap.get? b=some o) (hg:s₁.gens=s.gens) (ho:s₁.os=s.os) (hnew:s.heap.get? C=none) (R2:Rel hb C fr ρ' st' s') (N2:NextX is C ρ s₁ ρ' s') {h'':Heap} (hs:Heap.SameBut C s'.heap h''):
  Rel hb L fr ρ' ⟨st.loc,st'.objs⟩ {s' with heap:=h''}∧NextX is L ρ s ρ' {s' with heap:=h''}:=by
 refine aH (N2.ext) fun new q1_ hx=> ?_;subst q1_
 have hneC:∀b o,s.heap.get? b=some o→b≠C:=fun b o e q=>by rw [q,hnew]at e;cases e
 have keep:∀b o,s.heap.get? b=some o→b∉aS ρ→b∉is→KeptAt h'' b o:=fun b o e hb hi=>by
  refine aH (N2.keep b o (hk b o e) (hneC b o e) hb hi) fun o' e' k=> ?_
  exact⟨o',by rw [hs.2 b (hneC b o e)];exact e',k⟩
 have oldNew:∀a∈aS new,∀o,s.heap.get? a=some o→a∈aS ρ:=fun a ha o e=>(hx a ha o (hk a o e)).resolve_left (hneC a o e)
 refine aF fun gq hgq=> ?_
 refine aH (R.loc) fun m hn hl=> ?_
 refine aJw hn fun oL es n h1 h2 h3=> ?_
 subst hgq
 have hL:=(List.nodup_cons.mp R.apart).1
 have hC:=(List.nodup_cons.mp R2.apart).1
 refine⟨⟨fun b o e=> ?_, ?_,R.above,R2.len,fun i o e=> ?_,List.nodup_cons.mpr ⟨fun q=> ?_,(List.nodup_cons.mp R2.apart).2⟩,R2.new,fun env he=> ?_,R2.tk⟩,⟨⟨new,rfl,fun a ha o e=>.inr (oldNew a ha o e)⟩,fun b o e zz hb hi=>keep b o e hb hi,N2.gens.trans hg,N2.os.trans ho⟩⟩
 ·exact(hs.2 b (cZ e R2.above)).trans (R2.base b o e)
 ·refine aH (keep L oL h1 hL hL') fun o' e' k=> ?_
  exact⟨m,⟨o',es,n,e',k.data.trans h2,h3⟩,hl.mono⟩
 ·refine aH (R2.objs i o e) fun y hy r=> ?_
  refine⟨y,hy,r.keep fun b hb o e=>(hs.2 b fun q=>hC (q▸List.mem_flatMap.mpr ⟨y,List.mem_of_getElem? hy,hb⟩)).trans e⟩
 ·rw [aL,List.mem_append]at q
  rcases q with q|q
  ·exact hL q
  ·exact hL (oldNew L q oL h1)
 ·obtain⟨hk2,L',o,es,n,a,b,c,d,e⟩:=R2.frs env he
  refine⟨hk2,L', ?_⟩
  by_cases q:L'=C
  ·
   refine aF fun gq hgq=> ?_
   obtain⟨_,L2,o2,es2,n2,a2,b2,c2,d2,e2⟩:=R.frs env he
   rw [a]at a2
   obtain rfl:=Option.some.inj a2
   subst hgq
   exact absurd q (hneC _ _ d2)
  ·exact⟨o,es,n,a,b,c,(hs.2 L' q).trans d,e⟩
end
section
variable {prog:Program} {w:World} {A:Around} {R:Result→Shared→Prop} {s:Shared} {elt:Expr} {gens:List Comprehension} {cs:Scope} {cpos:Pos} {depth:Nat} {it acc:Value} {env:Env}
noncomputable abbrev pO:=Value→Env→Sem Fin→Sem Fin
noncomputable def eD (e:Expr) (depth:Nat) (y:Str) (q p:Pos) (rest:pO):Prop:=∀it acc env,compTurn e depth it acc env=(standAt p>>=fun zz=>pyNext it>>=fun r=>match r with
   |none=>pure (.done .next)
   |some v=>letOwnedTupleGo (.Name y q) it v>>=fun zz=>assign (.Name y q) env v>>=fun zz=>rest acc env (again (.compLoop e depth it acc env)))
noncomputable def aS1 (M:Model) (A:Around) (R:Result→Shared→Prop) (fin:Fin) (s':Shared):Prop:=match fin with
 | .done f=>R (.ok f) s'
 | .again c'=>c'.quiet=true∧codeAny M A c' R s'
theorem lE {y:Str} {q p:Pos} {rest:pO} (heq:eD (.ListComp elt gens cs cpos) depth y q p rest)
  (h:wpAny (aP prog w) A (pyNext it) (fun r s₁=>match r with
   |none=>R (.ok .next) s₁
   |some v=>wpAny (aP prog w) A (bindName env y v) (fun zz s₂=>wpAny (aP prog w) A (rest acc env (again (.compLoop (.ListComp elt gens cs cpos) depth it acc env))) (aS1 (aP prog w) A R) (notedBy (aP prog w) A env fun e s'=>R (.error e) s') s₂)
     (notedBy (aP prog w) A env fun e s'=>R (.error e) s') s₁) (notedBy (aP prog w) A env fun e s'=>R (.error e) s') s):codeAny (aP prog w) A (.compLoop (.ListComp elt gens cs cpos) depth it acc env) R s:=by
 refine codeAny_of_tree ?_
 show wpAny _ A ((compTurn (.ListComp elt gens cs cpos) depth it acc env).onRaise (fun x=>do noteFrame x env;theTreesLotGoes x)) _ _ s
 refine wpAny_noted ?_
 rw [heq]
 refine wpAny_bind (wpAny_standAt (wpAny_bind (wpAny_mono h (fun r s₁ h₁=> ?_) fun zz zz z=>z)))
 cases r with
 |none=>exact wpAny_pure h₁
 |some v=>
  dsimp only at h₁⊢
  show wpAny _ _ (letOwnedTupleGo (.Name y q) it v>>=fun zz=>_) _ _ _
  rw [show letOwnedTupleGo (.Name y q) it v=pure ()from rfl]
  refine wpAny_bind (wpAny_pure ?_)
  refine wpAny_bind (m:=assign (.Name y q) env v) ?_
  rw [arm_assign_Name]
  refine wpAny_bind (wpAny_standAt (wpAny_mono h₁ (fun zz s₂ h₂=> ?_) fun zz zz z=>z))
  exact wpAny_mono h₂ (fun fin s₃ h₃=>by cases fin<;>exact h₃) fun zz zz z=>z
theorem kF (hc:gens[depth]?.elim false (·.is_async !=0)=false)
  (h0:codeAny (aP prog w) A (.compLoop (.ListComp elt gens cs cpos) depth it acc env) R s)
  (h:wpAny (aP prog w) A (pyIter it) (fun it' s'=>codeAny (aP prog w) A (.compLoop (.ListComp elt gens cs cpos) depth it' acc env) R s') (notedBy (aP prog w) A env fun x s'=>R (.error x) s') s):
  codeAny (aP prog w) A (.compStart (.ListComp elt gens cs cpos) depth it acc env) R s:=by
 refine codeAny_of_tree ?_
 show wpAny _ _ ((compStart (.ListComp elt gens cs cpos) depth it acc env).onRaise (fun x=>do noteFrame x env;standAt theWindowsPlace)) _ _ s
 refine wpAny_notedAt ?_
 unfold compStart
 have hc':((clausesOf (.ListComp elt gens cs cpos))[depth]?).elim false (·.is_async !=0)=false:=hc
 rw [hc']
 show wpAny _ _ (ask>>=_) _ _ s
 refine wpAny_bind (wpAny_askSetting (wpAny_ite ?_))
 split
 ·first
   |exact wpAny_bind (wpAny_pure (wpAny_pure (And.intro rfl h0)))
   |exact wpAny_pure (And.intro rfl h0)
 ·refine wpAny_bind (wpAny_rule ?_)
  cases q:(clausesOf (.ListComp elt gens cs cpos))[depth]? with
  |none=>exact wpAny_bind (wpAny_mono h (fun it' s' h'=>wpAny_pure (And.intro rfl h')) fun zz zz x=>x)
  |some g=>exact wpAny_bind (wpAny_standAt (wpAny_bind (wpAny_mono h (fun it' s' h'=>wpAny_pure (And.intro rfl h')) fun zz zz x=>x)))
end
noncomputable def DoesR (K:Params→Frag) (n:Nat) (sc:Scope) (rest:pO) (ka:Nat) (st st':AS):Prop:=∀x:Cx,x.Ok K n sc→∀ρ acc k (s:Shared) (Q:Fin→Shared→Prop) (E:Value→Shared→Prop),den ρ (.obj ka) acc→Rel x.hb x.L x.fr ρ st s→
 (∀s' ρ',Rel x.hb x.L x.fr ρ' st' s'→Next x.L ρ s ρ' s'→wpAny (mx x) x.A k Q E s')→wpAny (mx x) x.A (rest acc x.env k) Q E s
inductive CTurns (K:Params→Frag) (n:Nat) (sc:Scope) (y:Str) (rest:pO) (ka:Nat) (good:AS→Prop):List AV→AS→AS→Prop
 |nil {st}:CTurns K n sc y rest ka good [] st st
 |cons {a as st st₁ st₂}:DoesR K n sc rest ka ⟨put y a st.loc,st.objs⟩ st₁→good st₁→CTurns K n sc y rest ka good as st₁ st₂→CTurns K n sc y rest ka good (a::as) st st₂
section
variable {K:Params→Frag} {n:Nat} {sc:Scope} {y:Str} {good:AS→Prop} {iter elt:Expr} {gens:List Comprehension} {cpos:Pos} {v:AV} {st st₁ st₂:AS} {as:List AV} {p pos q:Pos} {depth ka:Nat} {rest:pO}
theorem vC {x:Cx} {cs:Scope} (hx:x.Ok K n sc) (hk:sc.names.lookup y=some .local) (heq:eD (.ListComp elt gens cs cpos) depth y q p rest)
  {it:Value} {is:List Addr} {J:List AV→List OA→Shared→Prop} (I:Iter x it is good J) {as:List AV} {st st':AS} (T:CTurns K n sc y rest ka good as st st') {acc:Value}:
  ∀{ρ₀ ρ:List OA} {s₀ s:Shared} {R:Result→Shared→Prop},Rel x.hb x.L x.fr ρ st s→NextX is x.L ρ₀ s₀ ρ s→good st→J as ρ s→den ρ (.obj ka) acc→
   (∀s' ρ',Rel x.hb x.L x.fr ρ' st' s'→NextX is x.L ρ₀ s₀ ρ' s'→Ext ρ ρ'→R (.ok .next) s')→codeAny (mx x) x.A (.compLoop (.ListComp elt gens cs cpos) depth it acc x.env) R s:=by
 have TP:∀ρ₀ s₀,vT is (NextX is x.L ρ₀ s₀):=fun ρ₀ s₀ ρ s h' t N h=>N.touch h t
 induction T with
 |nil=>
  intro ρ₀ ρ s₀ s R RR N hg hJ da kk
  refine lE heq (I.stop _ _ _ _ _ _ (TP ρ₀ s₀) RR N hg hJ fun s' R' N'=> ?_)
  exact kk s' _ R' N' (.refl _)
 | @cons a as st st₁ st₂ hb hgood T ih=>
  intro ρ₀ ρ s₀ s R RR N hg hJ da kk
  refine lE heq (I.step _ _ _ _ _ _ _ _ (TP ρ₀ s₀) RR N hg hJ fun v s' R' N' d hJ'=> ?_)
  refine(cI hx hk d) s' _ _ R' fun zz s₂ ρ₂ R₂ N₂ zz=> ?_
  refine hb x hx ρ₂ acc _ s₂ _ _ (N₂.den da) R₂ fun s₃ ρ₃ R₃ N₃=> ?_
  have N23:=N₂.trans N₃
  have hJ3:=I.keep _ _ _ _ _ hJ' N23
  exact wpAny_pure ⟨rfl,ih R₃ (N'.next (I.un _ _ _ hJ3) N23) hgood hJ3 (N23.den da) fun s' ρ' R' N' x=>kk s' ρ' R' N' (N23.to.trans x)⟩
noncomputable def iL (sc:Scope):Bool:=match sc.kind with
 | .function=>sc.names.all fun x=>(match x.2 with| .cell=>false| .free=>false| .local=>(match cP x.1 sc.names with|some .local=>true|_=>false)|_=>true)
 |_=>false
theorem gM {sc:Scope} (h:iL sc=true):sc.kind= .function∧(∀x∈sc.names,x.2≠ .cell)∧(∀x∈sc.names,x.2≠ .free)∧∀x∈sc.names,x.2= .local→sc.names.lookup x.1=some .local:=by
 unfold iL at h
 split at h
 ·rename_i hk
  rw [List.all_eq_true]at h
  refine⟨hk,fun x hx q=> ?_,fun x hx q=> ?_,fun x hx q=> ?_⟩
  all_goals
   have:=h x hx
   rw [q]at this
   simp only at this
  ·cases this
  ·cases this
  ·rw [aN]
   split at this
   ·assumption
   ·cases this
 ·cases h
noncomputable def jT (x:Cx) (cs:Scope) (C:Addr):Cx:={x with env:={newEnv cs C x.env.globals [] x.env.qual none .none (some x.env) builtinsNs with scope:=cs},L:=C}
theorem aOl (cs:Scope) (C g:Addr) (cl:List (Str×Addr)) (ql:Str) (c:Value) (env:Env) (b:Addr):newEnv cs C g cl ql none c (some env) b={scope:=cs,locals:=C,globals:=g,cells:=cl,qual:=ql,func:=none,code:=env.code,frame:=env.frame,builtins:=env.builtins}:=rfl
theorem yJ {x:Cx} {cs:Scope} {C:Addr} (hx:x.Ok K n sc) (hc:iL cs=true):(jT x cs C).Ok K n cs:=
 ⟨⟨hx.glo,hx.frames,hx.bud,hx.handled⟩,rfl,(gM hc).1,rfl,hx.globals,hx.builtins⟩
theorem vD {x:Cx} (hx:x.Ok K n sc) {cs:Scope} (hc:iL cs=true) (hi:hO K n v as st₁ good)
  {ρ₁:List OA} {u:Value} {s₁:Shared} {E:Value→Shared→Prop} {Post:Value→Value→Env→Shared→Prop} (R₁:Rel x.hb x.L x.fr ρ₁ st₁ s₁) (d:den ρ₁ v u)
  (kk:∀it is J C acc ρ₄ s₄,Iter (jT x cs C) it is good J→J as ρ₄ s₄→Rel x.hb C x.fr ρ₄ ⟨[],st₁.objs++[.list []]⟩ s₄→den ρ₄ (.obj st₁.objs.length) acc→
   (∀s' ρ' st₂,Rel x.hb C x.fr ρ' st₂ s'→NextX is C ρ₄ s₄ ρ' s'→Ext ρ₄ ρ'→∃m,s'.heap.Ns C m∧den ρ' (.obj st₁.objs.length) acc∧(∀h'',Heap.SameBut C s'.heap h''→Rel x.hb x.L x.fr ρ' ⟨st₁.loc,st₂.objs⟩ {s' with heap:=h''}∧Next x.L ρ₁ s₁ ρ' {s' with heap:=h''})∧
    C≠x.L∧Untold x ρ' C∧(∀env∈x.fr,env.frame≠some C)∧s₁.heap.get? C=none)→Post it acc (jT x cs C).env s₄):
  wpAny (mx x) x.A (pyIter u) (fun it s₂=>wpAny (mx x) x.A (newList []) (fun acc s₃=>wpAny (mx x) x.A (newFunctionEnv cs x.env.globals [] [] x.env.qual none .none (some x.env)) (fun cenv s₄=>
    Post it acc {cenv with scope:=cs} s₄) E s₃) E s₂) E s₁:=by
 refine vW (gM hc) fun c1 c2 c3 c4=> ?_
 refine hi x hx.toRun ρ₁ u s₁ _ _ R₁ d fun it is s₂ R₂ N₂ U hno F=> ?_
 refine wpAny_newList ?_ (by simp)
 have hacc:=R₂.pushNew (o:={cls:=.type "list",data:=.seq ([]:List Value).toArray}) (ao:=.list []) ⟨[],0,rfl,Heap.get?_push_size _ rfl,.nil⟩
 have Nacc:=Next.pushNew (L:=x.L) (ρ:=ρ₁) (s:=s₂) {cls:=.type "list",data:=.seq ([]:List Value).toArray}
 refine wpAny_newFunctionEnv c2 (fun y hy=>nomatch hy) (fun h' hn' hs'=> ?_) c1
 have hk23:∀b o,s₂.heap.get? b=some o→(s₂.heap.push {cls:=.type "list",data:=.seq ([]:List Value).toArray}).get? b=some o:=fun b o e=>Heap.get?_push_of_some _ e
 have dacc:den (ρ₁++[⟨s₂.heap.objs.size,none⟩]) (.obj st₁.objs.length) (.ref s₂.heap.objs.size):=⟨⟨s₂.heap.objs.size,none⟩,by rw [←show ρ₁.length=st₁.objs.length from R₂.len];simp,rfl⟩
 have hUn:∀i∈is,i≠s₂.heap.objs.size:=fun i hi q=>by
  obtain⟨⟨o,e⟩,_⟩:=hno i hi
  rw [q]at e
  exact absurd (Heap.lt_size e) (Nat.lt_irrefl _)
 generalize hs3:({s₂ with heap:=s₂.heap.push {cls:=.type "list",data:=.seq ([]:List Value).toArray}}:Shared)=s₃ at*
 have e3:s₂.heap.push {cls:=.type "list",data:=.seq ([]:List Value).toArray}=s₃.heap:=by rw [←hs3]
 rw [e3]at hk23
 have hkC:∀b o,s₃.heap.get? b=some o→h'.get? b=some o:=fun b o e=>hs'.extBut b o (Nat.ne_of_lt (Heap.lt_size e)) (Heap.get?_push_of_some _ e)
 have hnC:s₃.heap.get? s₃.heap.objs.size=none:=Heap.get?_none_of_le (Nat.le_refl _)
 have hCL:s₃.heap.objs.size≠x.L:=fun q=>by
  refine cB (hacc.at_L) fun o e=> ?_
  rw [←q,hnC]at e;cases e
 have RC:=hacc.enter hn' hkC hnC (t:=s₃.toks+([]:List (Str×Value)).length) hacc.tk
 refine aH (F (jT x cs s₃.heap.objs.size) rfl rfl) fun J I hJ=> ?_
 have UC:∀i∈is,Untold (jT x cs s₃.heap.objs.size) (ρ₁++[⟨s₂.heap.objs.size,none⟩]) i:=fun i hi=>by
  refine⟨(U i hi).base,fun q=> ?_,fun q=> ?_⟩
  ·obtain⟨⟨oi,hoi⟩,_⟩:=hno i hi
   have:=hk23 i oi hoi
   rw [show i=s₃.heap.objs.size from q,hnC]at this
   cases this
  ·rw [aL,List.mem_append]at q
   rcases q with q|q
   ·exact(U i hi).obj q
   ·exact hUn i hi (by simpa [aS]using q)
 have hJ0:=hJ (ρ₁++[⟨s₂.heap.objs.size,none⟩]) ⟨h',s₃.gens,s₃.drawn,s₃.toks+([]:List (Str×Value)).length,s₃.os⟩ (fun b o e=>hkC b o (hk23 b o e)) ⟨_,rfl⟩ UC
 have N13:Next x.L ρ₁ s₁ (ρ₁++[⟨s₂.heap.objs.size,none⟩]) s₃:=N₂.trans Nacc
 have hFr:∀env∈x.fr,env.frame≠some s₃.heap.objs.size:=fun env he q=>by
  refine aF fun gq hgq=> ?_
  obtain⟨_,L',o,es,n,a,b,c,d,e⟩:=hacc.frs env he
  rw [a]at q
  obtain rfl:=Option.some.inj q
  subst hgq
  rw [hnC]at d;cases d
 have hC1:s₁.heap.get? s₃.heap.objs.size=none:=by
  cases q:s₁.heap.get? s₃.heap.objs.size with
  |none=>rfl
  |some o=>
   exfalso
   by_cases z2:s₃.heap.objs.size∈aS ρ₁
   ·obtain⟨o,e⟩:=hacc.at_some _ (by rw [aL];exact List.mem_append_left _ z2)
    rw [hnC]at e;cases e
   ·refine aH (N13.keep _ o q hCL z2) fun o' e zz=> ?_
    rw [hnC]at e;cases e
 refine kk it is J s₃.heap.objs.size _ _ _ I hJ0 RC dacc fun s' ρ' st₂ R' N' ex=> ?_
 refine aH (R'.loc) fun m hm zz=>⟨m,hm,ex.den dacc,fun h'' hs''=> ?_,hCL,⟨R'.above,hCL,(List.nodup_cons.mp R'.apart).1⟩,hFr,hC1⟩
 refine cK (hacc.leave (is:=is) (s₁:=⟨h',s₃.gens,s₃.drawn,s₃.toks+([]:List (Str×Value)).length,s₃.os⟩) (fun q=>(U _ q).loc rfl) hkC rfl rfl hnC R' N' hs'') fun B NB=> ?_
 exact⟨B,NB.close N13 fun b hb=>(hno b hb).2⟩
theorem nP {x:Cx} (hx:x.Ok K n sc) {cs:Scope} (hc:iL cs=true) (hk:cs.names.lookup y=some .local) (heq:eD (.ListComp elt gens cs cpos) 0 y q p rest)
  (hcl:gens[0]?.elim false (·.is_async !=0)=false)
  (hi:hO K n v as st₁ good) (hgo:good ⟨[],st₁.objs++[.list []]⟩) (T:CTurns K n cs y rest st₁.objs.length good as ⟨[],st₁.objs++[.list []]⟩ st₂)
  {ρ₁:List OA} {u:Value} {s₁:Shared} {E:Value→Shared→Prop} {RR:Value→Env→Result→Shared→Prop} (R₁:Rel x.hb x.L x.fr ρ₁ st₁ s₁) (d:den ρ₁ v u)
  (kk:∀C acc s' ρ' m,s'.heap.Ns C m→den ρ' (.obj st₁.objs.length) acc→Rel x.hb C x.fr ρ' st₂ s'→(∀h'',Heap.SameBut C s'.heap h''→Rel x.hb x.L x.fr ρ' ⟨st₁.loc,st₂.objs⟩ {s' with heap:=h''}∧Next x.L ρ₁ s₁ ρ' {s' with heap:=h''})→
   C≠x.L→Untold x ρ' C→(∀env∈x.fr,env.frame≠some C)→s₁.heap.get? C=none→RR acc (jT x cs C).env (.ok .next) s'):
  wpAny (mx x) x.A (pyIter u) (fun it s₂=>wpAny (mx x) x.A (newList []) (fun acc s₃=>wpAny (mx x) x.A (newFunctionEnv cs x.env.globals [] [] x.env.qual none .none (some x.env)) (fun cenv s₄=>
    codeAny (mx x) x.A (.compStart (.ListComp elt gens cs cpos) 0 it acc {cenv with scope:=cs}) (RR acc {cenv with scope:=cs}) s₄) E s₃) E s₂) E s₁:=by
 refine vD (Post:=fun it acc cenv s=>codeAny (mx x) x.A (.compStart (.ListComp elt gens cs cpos) 0 it acc cenv) (RR acc cenv) s) hx hc hi R₁ d fun it is J C acc ρ₄ s₄ I hJ0 RC dacc fin=> ?_
 have run:=vC (x:=jT x cs C) (yJ hx hc) hk heq I T RC (.refl ..) hgo hJ0 dacc fun s' ρ' R' N' ex=>aQq (fin s' ρ' st₂ R' N' ex) fun m a b c d e f g=>kk C acc s' ρ' m a b R' c d e f g
 exact kF hcl run (I.again _ _ _ _ _ hJ0 run)
end
end Mine
end
section
namespace Mine
noncomputable def oP (elt:Expr):pO:=fun acc env k=>(eval elt env>>=fun x=>call (.builtin "list.append") [acc,x]>>=fun zz=>pure ())>>=fun zz=>k
theorem aOa (elt iter:Expr) (y:Str) (q pos:Pos) (cs:Scope):eD (.ListComp elt [⟨.Name y q,iter,[],0⟩] cs pos) 0 y q iter.pos (oP elt):=fun it acc env=>by rfl
noncomputable def qP (elt:Expr) (ifs:List Expr):pO:=fun acc env k=>(do
    let mut ok:=true
    for c in ifs do
     if ok then ok←isTrue c env (eval c env)
    if ok then
     (do let _←call (.builtin "list.append") [acc,←eval elt env])
    k)
theorem aP8 (elt iter:Expr) (ifs:List Expr) (y:Str) (q pos:Pos) (cs:Scope):eD (.ListComp elt [⟨.Name y q,iter,ifs,0⟩] cs pos) 0 y q iter.pos (qP elt ifs):=fun it acc env=>by rfl
noncomputable def aGb (e iter2:Expr):pO:=fun acc env k=>(do
    let x←eval iter2 env
    standAt iter2.pos
    let x←foldedSetIterable iter2 env x
    let _←runOwn (.compStart e 1 (←holding [x] (pyIter x)) acc env) env
    k)
theorem aQy (elt iter iter2:Expr) (y z:Str) (q q2 pos:Pos) (cs:Scope):eD (.ListComp elt [⟨.Name y q,iter,[],0⟩,⟨.Name z q2,iter2,[],0⟩] cs pos) 0 y q iter.pos (aGb (.ListComp elt [⟨.Name y q,iter,[],0⟩,⟨.Name z q2,iter2,[],0⟩] cs pos) iter2):=fun it acc env=>by rfl
theorem aQx (elt iter iter2:Expr) (y z:Str) (q q2 pos:Pos) (cs:Scope):eD (.ListComp elt [⟨.Name y q,iter,[],0⟩,⟨.Name z q2,iter2,[],0⟩] cs pos) 1 z q2 iter2.pos (oP elt):=fun it acc env=>by rfl
section
variable {K:Params→Frag} {n:Nat} {sc:Scope} {y:Str} {good:AS→Prop} {iter elt:Expr} {gens:List Comprehension} {cpos:Pos} {v b:AV} {st st₁ st₂:AS} {as:List AV} {p pos q:Pos} {depth ka:Nat} {rest:pO} {xs:List AV}
theorem DoesR.forget {loc locm:List (Str×AV)} {objs more:List AO} (h:DoesR K n sc rest ka st ⟨loc++locm,objs++more⟩) (hz:st.objs.length≤objs.length)
  (h1:(loc.all fun f=>f.2.below objs.length)=true) (h2:objs.all (AO.below objs.length)=true):DoesR K n sc rest ka st ⟨loc,objs⟩:=by
 intro x hx ρ acc k s Q E da R kk
 refine h x hx ρ acc k s Q E da R fun s' ρ' R' N'=> ?_
 refine aH (N'.ext) fun new q1_ hx=> ?_;subst q1_
 have l1:ρ.length=st.objs.length:=R.len
 have l2:(ρ++new).length=(objs++more).length:=R'.len
 have hsp:new=new.take (objs.length - ρ.length)++new.drop (objs.length - ρ.length):=(List.take_append_drop _ _).symm
 have hlen:(ρ++new.take (objs.length - ρ.length)).length=objs.length:=by
  simp only [List.length_append,List.length_take]at l2⊢
  lia
 rw [hsp,←List.append_assoc]at R'
 rw [hsp]at N'
 exact kk s' _ (R'.forget hlen h1 h2) N'.forget
theorem aGv (h:DoesE K n sc elt st b st₁) (ho:st₁.objs[ka]?=some (.list xs)) (hz:xs.length≤sizeLine):DoesR K n sc (oP elt) ka st ⟨st₁.loc,st₁.objs.set ka (.list (xs++[b]))⟩:=by
 intro x hx ρ acc k s Q E da R kk
 unfold oP
 refine wpAny_bind (wpAny_bind (h x hx ρ s _ _ R fun v s₁ ρ₁ R₁ N₁ d=> ?_))
 have ca:=dV (K:=K) (n:=n) (a:=b) ho hz
 refine wpAny_bind (ca x hx.toRun st₁.loc ρ₁ [acc,v] [] (.cons (N₁.den da) (.cons d .nil)) .nil s₁ _ _ R₁ fun r s₂ ρ₂ R₂ N₂ zz=> ?_)
 exact wpAny_pure (kk s₂ ρ₂ R₂ (N₁.trans N₂))
theorem aA3 {c:Expr} (ht:cW K n sc c st true st₁) (h:DoesE K n sc elt st₁ b st₂) (ho:st₂.objs[ka]?=some (.list xs)) (hz:xs.length≤sizeLine):DoesR K n sc (qP elt [c]) ka st ⟨st₂.loc,st₂.objs.set ka (.list (xs++[b]))⟩:=by
 intro x hx ρ acc k s Q E da R kk
 have e:qP elt [c] acc x.env k=(isTrue c x.env (eval c x.env)>>=fun ok=>if ok then(do (do let _←call (.builtin "list.append") [acc,←eval elt x.env]);k)else k):=by
  unfold qP
  simp only [List.forIn_cons,List.forIn_nil,if_true]
  show Sem.bind (Sem.bind (Sem.bind _ _) _) _=Sem.bind _ _
  rw [Sem.bind_assoc,Sem.bind_assoc]
  rfl
 rw [e]
 refine wpAny_bind (ht x hx ρ s _ _ R fun r s₁ ρ₁ R₁ N₁ e=> ?_)
 subst e
 simp only [if_true]
 refine wpAny_bind (wpAny_bind (h x hx ρ₁ s₁ _ _ R₁ fun v s₂ ρ₂ R₂ N₂ d=> ?_))
 have ca:=dV (K:=K) (n:=n) (a:=b) ho hz
 refine wpAny_bind (ca x hx.toRun st₂.loc ρ₂ [acc,v] [] (.cons (N₂.den (N₁.den da)) (.cons d .nil)) .nil s₂ _ _ R₂ fun r s₃ ρ₃ R₃ N₃ zz=> ?_)
 exact wpAny_pure (kk s₃ ρ₃ R₃ ((N₁.trans N₂).trans N₃))
theorem wI {c:Expr} (ht:cW K n sc c st false st₁):DoesR K n sc (qP elt [c]) ka st st₁:=by
 intro x hx ρ acc k s Q E da R kk
 have e:qP elt [c] acc x.env k=(isTrue c x.env (eval c x.env)>>=fun ok=>if ok then(do (do let _←call (.builtin "list.append") [acc,←eval elt x.env]);k)else k):=by
  unfold qP
  simp only [List.forIn_cons,List.forIn_nil,if_true]
  show Sem.bind (Sem.bind (Sem.bind _ _) _) _=Sem.bind _ _
  rw [Sem.bind_assoc,Sem.bind_assoc]
  rfl
 rw [e]
 refine wpAny_bind (ht x hx ρ s _ _ R fun r s₁ ρ₁ R₁ N₁ e=> ?_)
 subst e
 simp only [Bool.false_eq_true,if_false]
 exact kk s₁ ρ₁ R₁ N₁
theorem aNy {iter2:Expr} {z:Str} {q2 p2:Pos} {rest2:pO} (hs:∀env x,foldedSetIterable iter2 env x=pure x) (hk:sc.names.lookup z=some .local) (heq:eD (.ListComp elt gens sc cpos) 1 z q2 p2 rest2)
  (hcl:gens[1]?.elim false (·.is_async !=0)=false) (h:DoesE K n sc iter2 st v st₁) (hi:hO K n v as st₁ good) (hg:good st₁) (T:CTurns K n sc z rest2 ka good as st₁ st₂):DoesR K n sc (aGb (.ListComp elt gens sc cpos) iter2) ka st st₂:=by
 intro x hx ρ acc k s Q E da R kk
 unfold aGb
 refine wpAny_bind (h x hx ρ s _ _ R fun u s₁ ρ₁ R₁ N₁ d=>wpAny_bind (wpAny_standAt (wpAny_bind (wpAny_of_eq (hs _ _) ?_))))
 refine wpAny_bind (wpAny_holding (hi x hx.toRun ρ₁ u s₁ _ _ R₁ d fun it is s₂ R₂ N₂ U hno F=> ?_))
 refine wpAny_bind (wpAny_runOwn ?_)
 refine aH (F x rfl rfl) fun J I hJ=> ?_
 have hJ0:=hJ ρ₁ s₂ (fun zz zz e=>e) (.refl _) U
 have da1:=N₂.den (N₁.den da)
 have run:∀R':Result→Shared→Prop,(∀s' ρ',Rel x.hb x.L x.fr ρ' st₂ s'→NextX is x.L ρ₁ s₂ ρ' s'→R' (.ok .next) s')→codeAny (mx x) x.A (.compLoop (.ListComp elt gens sc cpos) 1 it acc x.env) R' s₂:=fun R' hR=>
  vC (cs:=sc) hx hk heq I T R₂ (.refl ..) hg hJ0 da1 fun s' ρ' R3 N3 zz=>hR s' ρ' R3 N3
 have fin:∀s' ρ',Rel x.hb x.L x.fr ρ' st₂ s'→NextX is x.L ρ₁ s₂ ρ' s'→wpAny (mx x) x.A k Q E s':=fun s' ρ' R3 N3=>kk s' ρ' R3 (N₁.trans (N3.close N₂ fun b hb=>(hno b hb).2))
 exact kF hcl (run _ fin) (I.again _ _ _ _ _ hJ0 (run _ fin))
theorem jS {base:List AO} (f:AV→List AV) (hgood:∀acc:List AV,good ⟨[],base++[.list acc]⟩):
  ∀(as:List AV) (done:List AV),(∀pre a suf,as=pre++a::suf→DoesR K n sc rest base.length ⟨[(y,a)],base++[.list (done++pre.flatMap f)]⟩ ⟨[],base++[.list (done++pre.flatMap f++f a)]⟩)→
   CTurns K n sc y rest base.length good as ⟨[],base++[.list done]⟩ ⟨[],base++[.list (done++as.flatMap f)]⟩
 |[],done,_=>by simp only [List.flatMap_nil,List.append_nil];exact .nil
 |a::as,done,h=>by
  have h0:=h [] a as rfl
  simp only [List.flatMap_nil,List.append_nil]at h0
  have h1:=jS f hgood as (done++f a) fun pre b suf e=>by
   have:=h (a::pre) b suf (by rw [e];rfl)
   simpa only [List.flatMap_cons,List.append_assoc]using this
  simp only [List.flatMap_cons,←List.append_assoc]
  exact .cons h0 (hgood _) h1
theorem aFe {gs:List Comprehension} {cs:Scope} (hc:iL cs=true) (hk:cs.names.lookup y=some .local) (hs:∀env x,foldedSetIterable iter env x=pure x)
  (heq:eD (.ListComp elt (⟨.Name y q,iter,[],0⟩::gs) cs cpos) 0 y q p rest) (h:DoesE K n sc iter st v st₁) (hi:hO K n v as st₁ good) (hgo:good ⟨[],st₁.objs++[.list []]⟩)
  (T:CTurns K n cs y rest st₁.objs.length good as ⟨[],st₁.objs++[.list []]⟩ st₂):DoesE K n sc (.ListComp elt (⟨.Name y q,iter,[],0⟩::gs) cs cpos) st (.obj st₁.objs.length) ⟨st₁.loc,st₂.objs⟩:=by
 intro x hx ρ s Q E R kk
 refine vW (gM hc) fun c1 c2 c3 c4=> ?_
 refine wpAny_ListComp c3 c1 c4 (h x hx ρ s _ _ R fun u s₁ ρ₁ R₁ N₁ d=> ?_) (hs x.env)
 refine nP (RR:=fun acc cenv r s'=>∃m,s'.heap.Ns cenv.locals m∧∀h',Heap.SameBut cenv.locals s'.heap h'→
   match r with| .ok _=>Q acc {s' with heap:=h'}| .error x=>wpAny (mx _) _ (passOn "comprehension.variables-let-go" x cenv) Q E {s' with heap:=h'}) hx hc hk heq rfl hi hgo T R₁ d ?_
 intro C acc s' ρ' m hm da R' hl hCL hU hF hC1
 refine⟨m,hm,fun h' hs'=> ?_⟩
 refine cK (hl h' hs') fun B N=> ?_
 exact kk acc _ ρ' B (N₁.trans N) da
theorem wJ {cs:Scope} {c:Expr} (hc:iL cs=true) (hk:cs.names.lookup y=some .local) (hs:∀env x,foldedSetIterable iter env x=pure x)
  (heq:eD (.ListComp elt [⟨.Name y q,iter,[c],0⟩] cs cpos) 0 y q p rest) (h:DoesE K n sc iter st v st₁) (hi:hO K n v as st₁ good) (hgo:good ⟨[],st₁.objs++[.list []]⟩)
  (T:CTurns K n cs y rest st₁.objs.length good as ⟨[],st₁.objs++[.list []]⟩ st₂):DoesE K n sc (.ListComp elt [⟨.Name y q,iter,[c],0⟩] cs cpos) st (.obj st₁.objs.length) ⟨st₁.loc,st₂.objs⟩:=by
 intro x hx ρ s Q E R kk
 refine vW (gM hc) fun c1 c2 c3 c4=> ?_
 refine wpAny_ListComp c3 c1 c4 (h x hx ρ s _ _ R fun u s₁ ρ₁ R₁ N₁ d=> ?_) (hs x.env)
 refine nP (RR:=fun acc cenv r s'=>∃m,s'.heap.Ns cenv.locals m∧∀h',Heap.SameBut cenv.locals s'.heap h'→
   match r with| .ok _=>Q acc {s' with heap:=h'}| .error x=>wpAny (mx _) _ (passOn "comprehension.variables-let-go" x cenv) Q E {s' with heap:=h'}) hx hc hk heq rfl hi hgo T R₁ d ?_
 intro C acc s' ρ' m hm da R' hl hCL hU hF hC1
 refine⟨m,hm,fun h' hs'=> ?_⟩
 refine cK (hl h' hs') fun B N=> ?_
 exact kk acc _ ρ' B (N₁.trans N) da
theorem aFc {gs:List Comprehension} {cs:Scope} {z:Str} {zp spos:Pos} (hc:iL cs=true) (hk:cs.names.lookup y=some .local) (hs:∀env x,foldedSetIterable iter env x=pure x)
  (hz:sc.names.lookup z=some .local) (hln:zp.line=cpos.line) (hnz:(cs.names.any fun(n,k)=>n==z&&(k== .local||k== .cell))=false)
  (heq:eD (.ListComp elt (⟨.Name y q,iter,[],0⟩::gs) cs cpos) 0 y q p rest) (h:DoesE K n sc iter st v st₁) (hi:hO K n v as st₁ good) (hgo:good ⟨[],st₁.objs++[.list []]⟩)
  (T:CTurns K n cs y rest st₁.objs.length good as ⟨[],st₁.objs++[.list []]⟩ st₂):DoesS K n sc (.Assign [.Name z zp] (.ListComp elt (⟨.Name y q,iter,[],0⟩::gs) cs cpos) spos) st .next ⟨put z (.obj st₁.objs.length) st₁.loc,st₂.objs⟩:=by
 intro x hx ρ s Q E R kk
 refine vW (gM hc) fun c1 c2 c3 c4=> ?_
 have hb:x.env.blockKind= .function:=by unfold Env.blockKind;rw [hx.scope,hx.kind];rfl
 have hko:x.env.kindOf z=some .local:=by unfold Env.kindOf;rw [hx.scope];exact hz
 rw [exec_Assign_Name_used _ _ _ _ (by
  show pure (x.env.blockKind== .function&&x.env.kindOf z==some .local&&zp.line==cpos.line&& !(cs.names.any fun(n,k)=>n==z&&(k== .local||k== .cell)))=pure true
  rw [hb,hko,hln,hnz]
  simp)]
 refine wpAny_bind (wpAny_standAt (wpAny_bind ?_))
 show wpAny _ _ (do let _←comprehension (.ListComp elt (⟨.Name y q,iter,[],0⟩::gs) cs cpos) cs x.env _ (newList []) false (eval iter x.env) (some (assign (.Name z zp) x.env))) _ _ s
 refine wpAny_bind (wpAny_mono (wpAny_comprehension_use (Q:=fun zz s'=>Q .next s') rfl (hs x.env) c3 c1 c4 (h x hx ρ s _ _ R fun u s₁ ρ₁ R₁ N₁ d=> ?_)) (fun zz s' hq=>wpAny_pure (wpAny_pure hq)) fun zz zz e=>e)
 refine nP (RR:=fun acc cenv r s'=>match r with
   | .ok _=>wpAny (mx x) x.A (assign (.Name z zp) x.env acc) (fun zz s''=>∃m,s''.heap.Ns cenv.locals m∧∀h',Heap.SameBut cenv.locals s''.heap h'→Q .next {s'' with heap:=h'}) E s'
   | .error e=>∃m,s'.heap.Ns cenv.locals m∧∀h',Heap.SameBut cenv.locals s'.heap h'→wpAny (mx x) x.A (passOn "comprehension.variables-let-go" e cenv) (fun zz s'=>Q .next s') E {s' with heap:=h'}) hx hc hk heq rfl hi hgo T R₁ d ?_
 intro C acc s' ρ' m hm da R' hl hCL hU hF hC1
 refine cK (hl s'.heap (.refl ..)) fun B0 N0=> ?_
 rw [arm_assign_Name]
 refine aH (B0.loc) fun m0 hn0 hl0=> ?_
 refine wpAny_bind (wpAny_standAt (wpAny_bindName (wpAny_storeName_local hko (by rw [hx.locals];exact hn0) (fun h₂ hn₂ hs₂=> ?_) (by rw [hx.scope,hx.kind];rfl))))
 rw [hx.locals]at hn₂ hs₂
 refine⟨m,hm.sameBut hs₂ hCL,fun h' hs'=> ?_⟩
 have B1:=B0.store hl0 hn₂ hs₂ da (t:=s'.toks+1) (Nat.succ_pos _)
 have N1:=N0.trans (Next.store (ρ:=ρ') hs₂ (s'.toks+1))
 refine kk _ _ ρ' (B1.touchC hU hF hs') (N₁.trans (N1.touchC hC1 hs')) rfl
end
end Mine
end
section
namespace Mine
open PySem.Builtin PySem.Builtin.Str PySem.StrLaws
noncomputable def bO (c:Nat):List Nat→Nat→List Nat
 |[],_=>[]
 |d::r,p=>if d=c then p::bO c r (p+1)else bO c r (p+1)
theorem sF (l:List Nat) (c limit:Nat):∀(m cur:Nat) (st:Array Nat×Nat),st.snd≤cur→st.fst.size≤limit→cur+m=l.length+1→
  (forIn (List.range' cur m) st (occBody (mkS l) ⟨#[c]⟩ l.length limit)).run.fst.toList=st.fst.toList++(bO c (l.drop cur) cur).take (limit - st.fst.size)
 |0,cur,st,_,_,h=>by
  have:l.drop cur=[]:=List.drop_eq_nil_iff.mpr (by lia)
  rw [this]
  simp [bO]
 |m+1,cur,st,h1,h2,h3=>by
  rw [List.range'_succ,List.forIn_cons]
  unfold occBody
  have hs:=subAt_one (mkS l) c cur
  have hlen:(mkS l).length=l.length:=aK l
  rw [hlen]at hs
  have hl1:(⟨#[c]⟩:Str).length=1:=rfl
  by_cases hat:l[cur]?=some c
  ·have hlt:cur<l.length:=(List.getElem?_eq_some_iff.mp hat).1
   have hd:l.drop cur=c::l.drop (cur+1):=by
    rw [List.drop_eq_getElem_cons hlt]
    congr
    exact(List.getElem?_eq_some_iff.mp hat).2
   have hs':=hs.mpr hat
   rw [hd]
   simp only [bO,if_true]
   by_cases hq:st.fst.size<limit
   ·rw [if_pos ⟨⟨⟨hq,h1⟩,hs'.1⟩,hs'.2⟩]
    show(forIn (m:=Id) (List.range' (cur+1) m) (st.fst.push cur,cur+(⟨#[c]⟩:Str).length) (occBody (mkS l) ⟨#[c]⟩ l.length limit)).run.fst.toList=_
    rw [hl1]
    have:=sF l c limit m (cur+1) (st.fst.push cur,cur+1) (Nat.le_refl _) (by simp;lia) (by lia)
    rw [this]
    simp only [Array.toList_push,List.append_assoc,Array.size_push]
    have e:limit - st.fst.size=(limit - (st.fst.size+1))+1:=by lia
    rw [e,List.take_succ_cons]
    rfl
   ·have e0:limit - st.fst.size=0:=by lia
    rw [if_neg (fun h=>hq h.1.1.1)]
    show(forIn (m:=Id) (List.range' (cur+1) m) (st.fst,st.snd) (occBody (mkS l) ⟨#[c]⟩ l.length limit)).run.fst.toList=_
    have:=sF l c limit m (cur+1) (st.fst,st.snd) (Nat.le_succ_of_le h1) h2 (by lia)
    rw [this,e0]
    simp
  ·have hn:¬(((st.fst.size<limit∧st.snd≤cur)∧cur+(⟨#[c]⟩:Str).length≤l.length)∧subAt (mkS l) ⟨#[c]⟩ cur=true):=fun h=>hat (hs.mp ⟨h.1.2,h.2⟩)
   rw [if_neg hn]
   show(forIn (m:=Id) (List.range' (cur+1) m) (st.fst,st.snd) (occBody (mkS l) ⟨#[c]⟩ l.length limit)).run.fst.toList=_
   have:=sF l c limit m (cur+1) (st.fst,st.snd) (Nat.le_succ_of_le h1) h2 (by lia)
   rw [this]
   congr 2
   by_cases hlt:cur<l.length
   ·rw [List.drop_eq_getElem_cons hlt]
    have:l[cur]≠c:=fun q=>hat (by rw [List.getElem?_eq_getElem hlt,q])
    simp only [bO,this,if_false]
   ·rw [List.drop_eq_nil_iff.mpr (by lia),List.drop_eq_nil_iff.mpr (by lia)]
    rfl
theorem sG (l:List Nat) (c lo limit:Nat):occurrences (mkS l) ⟨#[c]⟩ lo l.length limit=(bO c (l.drop lo) lo).take limit:=by
 rw [occ_eq]
 by_cases h:lo≤l.length
 ·have:=sF l c limit (l.length+1 - lo) lo (#[],lo) (Nat.le_refl _) (Nat.zero_le _) (by omega)
  rw [this]
  simp
 ·rw [List.drop_eq_nil_iff.mpr (by omega),show l.length+1 - lo=0 by omega]
  simp [bO]
theorem rD (c:Nat):∀(l:List Nat) (p:Nat),(bO c l p).length≤l.length
 |[],_=>by simp [bO]
 |d::r,p=>by
  have:=rD c r (p+1)
  unfold bO
  split<;>simp<;>lia
theorem xY (c:Nat) (l:List Nat) (p n:Nat) (h:l.length≤n):(bO c l p).take n=bO c l p:=List.take_of_length_le (Nat.le_trans (rD c l p) h)
noncomputable def aD (c:Nat):List Nat→List (List Nat)
 |[]=>[[]]
 |d::r=>if d=c then []::aD c r else match aD c r with
  |h::t=>(d::h)::t
  |[]=>[[d]]
theorem bR (c:Nat):∀l,aD c l≠ []
 |[]=>by simp [aD]
 |d::r=>by
  unfold aD
  split
  ·simp
  ·split<;>simp
noncomputable def qF (l:List Nat) (a:Nat) (cuts:List Nat):List (List Nat):=((a::cuts.map (· +1)).zip (cuts++[l.length])).map fun(i,j)=>(l.drop i).take (j - i)
theorem nO (l:List Nat) (c:Nat):∀(r:List Nat) (p a:Nat),l.drop p=r→a≤p→p≤l.length→
  qF l a (bO c r p)=match aD c r with|h::t=>((l.drop a).take (p - a)++h)::t|[]=>[]
 |[],p,a,h,ha,hp=>by
  have hp':p=l.length:=by have:=List.drop_eq_nil_iff.mp h;lia
  subst hp'
  simp [bO,qF,aD]
 |d::r,p,a,h,ha,hp=>by
  have hlt:p<l.length:=by
   rcases Nat.lt_or_ge p l.length with q|q
   ·exact q
   ·rw [List.drop_eq_nil_iff.mpr q]at h;cases h
  have hd':l.drop (p+1)=r:=by rw [←List.tail_drop,h];rfl
  unfold bO aD
  by_cases q:d=c
  ·simp only [q,if_true]
   have ih:=nO l c r (p+1) (p+1) hd' (Nat.le_refl _) hlt
   have:qF l a (p::bO c r (p+1))=(l.drop a).take (p - a)::qF l (p+1) (bO c r (p+1)):=by
    simp [qF]
   rw [this,ih]
   cases hs:aD c r with
   |nil=>exact absurd hs (bR c r)
   |cons h t=>simp
  ·simp only [q,if_false]
   have ih:=nO l c r (p+1) a hd' (by lia) hlt
   rw [ih]
   cases hs:aD c r with
   |nil=>exact absurd hs (bR c r)
   |cons h0 t=>
    simp only [List.cons.injEq,and_true]
    have e:(l.drop a).take (p+1 - a)=(l.drop a).take (p - a)++[d]:=by
     have hda:(l.drop a)[p - a]?=some d:=by
      rw [List.getElem?_drop,show a+(p - a)=p by lia]
      have:(l.drop p)[0]?=some d:=by rw [h];rfl
      rw [List.getElem?_drop]at this
      simpa using this
     have hlt2:p - a<(l.drop a).length:=(List.getElem?_eq_some_iff.mp hda).1
     rw [show p+1 - a=(p - a)+1 by lia,List.take_succ,hda]
     rfl
    rw [e,List.append_assoc]
    rfl
theorem xN (l:List Nat) (c:Nat):(partsBetween (mkS l) (bO c l 0) 1)=(aD c l).map mkS:=by
 have h1:=nO l c l 0 0 rfl (Nat.le_refl _) (Nat.zero_le _)
 have h2:(match aD c l with|h::t=>((l.drop 0).take (0 - 0)++h)::t|[]=>[])=aD c l:=by
  cases aD c l<;>simp
 rw [h2]at h1
 rw [←h1]
 unfold partsBetween qF
 rw [aK,List.map_map]
 refine List.map_congr_left fun x zz=> ?_
 obtain⟨i,j⟩:=x
 refine gG ?_
 show(Array.extract l.toArray i j).toList=_
 simp [mkS]
noncomputable def cT (z:List Nat):List (List Nat)→List Nat
 |[]=>[]
 |[a]=>a
 |a::b::r=>a++z++cT z (b::r)
theorem uM (z:Str):∀(r:List (List Nat)) (a:Array Nat),((r.map mkS).foldl (fun acc p=>acc++z.cps++p.cps) a).toList=a.toList++r.flatMap (fun x=>z.cps.toList++x)
 |[],a=>by simp
 |x::r,a=>by
  rw [List.map_cons,List.foldl_cons,uM z r]
  simp [mkS]
theorem hD (z:List Nat):∀(a:List Nat) (r:List (List Nat)),cT z (a::r)=a++r.flatMap (fun x=>z++x)
 |a,[]=>by simp [cT]
 |a,b::r=>by rw [cT,hD z b r];simp
theorem rE (z:Str) (l:List (List Nat)):glued z (l.map mkS)=mkS (cT z.cps.toList l):=by
 refine gG ?_
 cases l with
 |nil=>rfl
 |cons a r=>
  rw [hD]
  show((((a::r).map mkS).drop 1).foldl _ (((a::r).map mkS).headD Str.empty).cps).toList=_
  simp only [List.map_cons,List.drop_succ_cons,List.drop_zero,List.headD_cons]
  rw [uM]
  rfl
noncomputable def aQ (c:Nat) (z l:List Nat):List Nat:=l.flatMap fun d=>if d=c then z else [d]
theorem uH (c:Nat) (z:List Nat):∀l,cT z (aD c l)=aQ c z l
 |[]=>rfl
 |d::r=>by
  have ih:=uH c z r
  unfold aD aQ
  rw [List.flatMap_cons]
  by_cases q:d=c
  ·simp only [q,if_true]
   have hne:=bR c r
   cases hs:aD c r with
   |nil=>exact absurd hs hne
   |cons h t=>
    rw [hs]at ih
    rw [hD,List.flatMap_cons]
    rw [hD]at ih
    rw [List.nil_append,List.append_assoc,ih]
    rfl
  ·simp only [q,if_false]
   have hne:=bR c r
   cases hs:aD c r with
   |nil=>exact absurd hs hne
   |cons h t=>
    rw [hs]at ih
    simp only
    rw [hD]at ih⊢
    rw [List.cons_append,ih]
    rfl
theorem aCi {c:Nat}:∀{l:List Nat} {p:Nat},bO c l p=[]→aQ c z l=l
 |[],_,_=>rfl
 |d::r,p,h=>by
  unfold bO at h
  split at h
  ·cases h
  ·rename_i q
   have:=aCi (z:=z) h
   unfold aQ at this⊢
   rw [List.flatMap_cons,this]
   simp [q]
theorem aBl (l z:List Nat) (c:Nat):Txt.replace (mkS l) ⟨#[c]⟩ (mkS z)=mkS (aQ c z l):=by
 unfold Txt.replace
 have hl:(mkS l).length=l.length:=aK l
 rw [hl,sG,List.drop_zero,xY c l 0 _ (Nat.le_succ _)]
 have h1:(⟨#[c]⟩:Str).length=1:=rfl
 rw [h1]
 cases q:bO c l 0 with
 |nil=>simp [aCi q]
 |cons i r=>
  simp only [List.isEmpty_cons,Bool.false_or]
  rw [←q,xN,rE,uH]
  rfl
theorem cF (c:Nat) (z:List Nat):∀l:List Nat,(aQ c z l).length≤l.length*(z.length+1)
 |[]=>by simp [aQ]
 |d::r=>by
  have ih:=cF c z r
  have e:aQ c z (d::r)=(if d=c then z else [d])++aQ c z r:=by unfold aQ;rw [List.flatMap_cons]
  rw [e,List.length_append,List.length_cons,Nat.succ_mul]
  have:(if d=c then z else [d]).length≤z.length+1:=by split<;>simp
  omega
noncomputable def bJ (c:Nat) (l:List Nat) (k:Nat):Int:=match bO c (l.drop k) k with
 |i::_=>(i:Int)
 |[]=> -1
theorem aGu (l:List Nat) (c k:Nat):(match occurrences (mkS l) ⟨#[c]⟩ k l.length 1 with|i::_=>(i:Int)|[]=> -1)=bJ c l k:=by
 rw [sG]
 unfold bJ
 cases bO c (l.drop k) k<;>simp
noncomputable def dW (c:Nat) (l:List Nat):Option Nat:=(bO c l 0).getLast?
theorem aCc (l:List Nat) (c:Nat):lastOccurrence (mkS l) ⟨#[c]⟩ 0 l.length=dW c l:=by
 have key:∀(m cur:Nat) (st:Option Nat),cur+m=l.length+1→
   (forIn (m:=Id) (List.range' cur m) st (fun i r=>if i+(⟨#[c]⟩:Str).length≤l.length∧subAt (mkS l) ⟨#[c]⟩ i=true then pure (ForInStep.yield (some i))else pure (ForInStep.yield r))).run=((bO c (l.drop cur) cur).getLast?).or st:=by
  intro m
  induction m with
  |zero=>
   intro cur st h
   rw [List.drop_eq_nil_iff.mpr (by lia)]
   simp [bO]
  |succ m ih=>
   intro cur st h
   rw [List.range'_succ,List.forIn_cons]
   have hs:=subAt_one (mkS l) c cur
   rw [aK]at hs
   by_cases hat:l[cur]?=some c
   ·have hlt:cur<l.length:=(List.getElem?_eq_some_iff.mp hat).1
    have hd:l.drop cur=c::l.drop (cur+1):=by
     rw [List.drop_eq_getElem_cons hlt]
     congr
     exact(List.getElem?_eq_some_iff.mp hat).2
    rw [if_pos (hs.mpr hat)]
    have:=ih (cur+1) (some cur) (by lia)
    refine(this).trans ?_
    rw [hd]
    simp only [bO,if_true]
    cases q:bO c (l.drop (cur+1)) (cur+1)with
    |nil=>simp
    |cons a r=>simp [List.getLast?_cons]
   ·rw [if_neg (fun h=>hat (hs.mp h))]
    have:=ih (cur+1) st (by lia)
    refine(this).trans ?_
    by_cases hlt:cur<l.length
    ·rw [List.drop_eq_getElem_cons hlt]
     have:l[cur]≠c:=fun q=>hat (by rw [List.getElem?_eq_getElem hlt,q])
     simp only [bO,this,if_false]
    ·rw [List.drop_eq_nil_iff.mpr (by lia),List.drop_eq_nil_iff.mpr (by lia)]
     simp [bO]
 have:=key (l.length+1) 0 none (by lia)
 rw [List.drop_zero]at this
 unfold dW
 rw [Option.or_none]at this
 rw [←this]
 unfold lastOccurrence
 simp
end Mine
end
section
namespace Mine
open PySem.Builtin PySem.Builtin.Str PySem.StrLaws
noncomputable abbrev S (l:List Nat):AV:=.sym none (mkS l)
section
variable {K:Params→Frag} {n:Nat} {objs:List AO} {a:AV} {l:List Nat} {c:Nat} {e:Option Bool}
theorem wO (ha:cS a=some (mkS l)):DoesCall K n (.builtin "str.find") [a,.str ⟨#[c]⟩] [] objs (.isym (bJ c l 0)) objs:=cC fun w A s Q E ρ vs hv k=>by
 refine aF fun gq hgq=> ?_
 cases hv with|cons d hv=>cases hv with|cons d2 hv=>
 cases hv
 refine aH (bK ha d) fun t q1_ zz=> ?_;subst q1_
 obtain⟨⟨t',rfl⟩,_⟩:=d2
 subst hgq
 refine SC.find ?_
 have:Txt.find (mkS l) ⟨#[c]⟩=bJ c l 0:=by
  unfold Txt.find
  have:=aGu l c 0
  rw [←aK l]at this
  exact this
 rw [this]
 exact k _ _ ⟨_,rfl⟩
theorem hH {i:Nat} (ha:cS a=some (mkS l)):DoesCall K n (.builtin "str.find") [a,.str ⟨#[c]⟩,.isym (i:Int)] [] objs (.isym (bJ c l i)) objs:=cC fun w A s Q E ρ vs hv k=>by
 refine aF fun gq hgq=> ?_
 cases hv with|cons d hv=>cases hv with|cons d2 hv=>cases hv with|cons d3 hv=>
 cases hv
 refine aH (bK ha d) fun t q1_ zz=> ?_;subst q1_
 obtain⟨⟨t',rfl⟩,_⟩:=d2
 refine cB d3 fun t'' q1_=> ?_;subst q1_
 subst hgq
 refine call_gives F.slot_str_find (typeIs_str _ _ _) F.entry_str_find (F.args_str_find_3 _ _ _) (gives_str_find_from (mkS l) ⟨#[c]⟩ (i:Int) t t' t'') ?_
 have hf:fromIndex (mkS l).length (i:Int)=i:=by unfold fromIndex;rw [if_neg (by lia)];lia
 rw [hf]
 have:=aGu l c i
 rw [←aK l]at this
 have h2:∀z,z=bJ c l i→(Made.int z).post Q s:=by
  rintro _ rfl
  exact k _ _ ⟨_,rfl⟩
 exact h2 _ this
theorem lG (ha:cS a=some (mkS l)):DoesCall K n (.builtin "str.rfind") [a,.str ⟨#[c]⟩] [] objs (.isym (match dW c l with|some i=>(i:Int)|none=> -1)) objs:=cC fun w A s Q E ρ vs hv k=>by
 refine aF fun gq hgq=> ?_
 cases hv with|cons d hv=>cases hv with|cons d2 hv=>
 cases hv
 refine aH (bK ha d) fun t q1_ zz=> ?_;subst q1_
 obtain⟨⟨t',rfl⟩,_⟩:=d2
 subst hgq
 refine SC.rfind ?_
 have:Txt.rfind (mkS l) ⟨#[c]⟩=(match dW c l with|some i=>(i:Int)|none=> -1):=by
  unfold Txt.rfind
  have:=aCc l c
  rw [←aK l]at this
  rw [this]
  cases dW c l<;>rfl
 rw [this]
 exact k _ _ ⟨_,rfl⟩
theorem aD8 {i:Int} (h0:0≤i) (h1:i≤1114111):DoesCall K n (.builtin "chr") [.isym i] [] objs (.sym (some true) (mkS [i.toNat])) objs:=cC fun w A s Q E ρ vs hv k=>by
 cases hv with|cons d hv=>
 cases hv
 refine cB d fun t q1_=> ?_;subst q1_
 exact PyProof.Rows.chr_of_range h0 h1 (k _ _ ⟨⟨_,rfl⟩,by rw [sizeLine_eq];show 1≤_;decide,fun zz=>by simp [mkS],fun h=>by cases h⟩)
theorem wR {i:Int}:DoesCall K n (.type "int") [.isym i] [] objs (.isym i) objs:=cC fun w A s Q E ρ vs ha k=>by
 cases ha with|cons d ha=>cases ha;obtain⟨t,rfl⟩:=d;exact call_int_int (k _ s.toks ⟨_,rfl⟩)
theorem aD7 {i j:Int} (hj:j≠0) (hp:Builtin.divisionGoesByPylong i j=false):DoesCall K n (.builtin "divmod") [.isym i,.isym j] [] objs (.obj objs.length) (objs++[.tup [.isym (i.fdiv j),.isym (i.fmod j)]]):=by
 intro x hx loc ρ vs kvs ha hk s Q E R kk
 refine aF fun gq hgq=> ?_
 cases hk
 cases ha with|cons d ha=>cases ha with|cons d2 ha=>
 cases ha
 refine cB d fun t q1_=> ?_;subst q1_
 refine cB d2 fun t' q1_=> ?_;subst q1_
 subst hgq
 refine to1 (divmod_int hj ?_ (.inl hp))
 refine kk _ _ _ ((R.pushNew (ao:=.tup [.isym (i.fdiv j),.isym (i.fmod j)]) ⟨[_,_],0,rfl,Heap.get?_push_size _ rfl,.cons ⟨_,rfl⟩ (.cons ⟨_,rfl⟩ .nil)⟩).toks (Nat.succ_pos _)) ((Next.pushNew _).toks _) (bV R _)
theorem mT (ρ:List OA):∀(ps:List (List Nat)) (t:Nat),(∀p∈ps,p.length≤sizeLine)→All2 (den ρ) (ps.map S) (strsFrom t (ps.map mkS))
 |[],_,_=>.nil
 |p::r,t,h=>.cons ⟨⟨t,rfl⟩,by rw [aK];exact h p (.head _),(fun h=>by cases h),fun h=>by cases h⟩ (mT ρ r (t+1) fun q hq=>h q (.tail _ hq))
theorem iU (c:Nat):∀(l:List Nat),∀p∈aD c l,p.length≤l.length
 |[],p,hp=>by simp [aD]at hp;simp [hp]
 |d::r,p,hp=>by
  have ih:=iU c r
  unfold aD at hp
  split at hp
  ·rcases List.mem_cons.mp hp with rfl|hp
   ·simp
   ·have:=ih p hp;simp;lia
  ·cases hs:aD c r with
   |nil=>rw [hs]at hp;simp at hp;simp [hp]
   |cons h t=>
    rw [hs]at hp ih
    rcases List.mem_cons.mp hp with rfl|hp
    ·have:=ih h (.head _);simp;lia
    ·have:=ih p (.tail _ hp);simp;lia
theorem oG (c:Nat):∀(l:List Nat),(aD c l).length≤l.length+1
 |[]=>by simp [aD]
 |d::r=>by
  have ih:=oG c r
  unfold aD
  split
  ·simp;omega
  ·cases hs:aD c r with
   |nil=>simp
   |cons h t=>rw [hs]at ih;simp at ih⊢;omega
theorem qN (c:Nat):∀{l:List Nat},c∉l→aD c l=[l]
 |[],_=>rfl
 |d::r,h=>by
  have ih:=qN c (l:=r) (fun q=>h (.tail _ q))
  unfold aD
  rw [if_neg (fun q=>h (by rw [q];exact .head _)),ih]
theorem xZ {c:Nat}:∀{l:List Nat} {p:Nat},bO c l p=[]→c∉l
 |[],_,_=>by simp
 |d::r,p,h=>by
  unfold bO at h
  split at h
  ·cases h
  ·rename_i q
   have:=xZ h
   simp only [List.mem_cons,not_or]
   exact⟨fun z=>q z.symm,this⟩
theorem lF (ha:cS a=some (mkS l)) (hl:l.length<1000000):DoesCall K n (.builtin "str.split") [a,.str ⟨#[c]⟩] [] objs (.obj objs.length) (objs++[.list ((aD c l).map S)]):=by
 intro x hx loc ρ vs kvs hv hk s Q E R kk
 refine aF fun gq hgq=> ?_
 cases hk
 cases hv with|cons d hv=>cases hv with|cons d2 hv=>
 cases hv
 refine aH (bK ha d) fun t q1_ zz=> ?_;subst q1_
 obtain⟨⟨t',rfl⟩,_⟩:=d2
 subst hgq
 have hsz:(mkS l).length≤sizeLine:=by rw [aK,sizeLine_eq];lia
 have itself:c∉l→∀(Q:Value→Shared→Prop),(∀a s' ρ',Rel x.hb x.L x.fr ρ' ⟨loc,objs++[.list ((aD c l).map S)]⟩ s'→Next x.L ρ s ρ' s'→den ρ' (.obj objs.length) a→Q a s')→
   Q (.ref s.heap.objs.size) {s with heap:=s.heap.push {cls:=.type "list",data:=.seq [Value.str (mkS l) t].toArray}}:=fun hf Q kk=>by
  rw [qN c hf]at kk
  exact kk _ _ _ (R.pushNew (ao:=.list [S l]) ⟨[_],0,rfl,Heap.get?_push_size _ rfl,.cons ⟨⟨_,rfl⟩,hsz,(fun h=>by cases h),fun h=>by cases h⟩ .nil⟩) (Next.pushNew _) (bV R _)
 have hocc:occurrences (mkS l) ⟨#[c]⟩ 0 (mkS l).length ((mkS l).length+1)=bO c l 0:=by
  rw [aK,sG,List.drop_zero,xY c l 0 _ (Nat.le_succ _)]
 cases h1:(decide ((mkS l).length<(⟨#[c]⟩:Str).length)||decide (strKind (mkS l)<strKind ⟨#[c]⟩))with
 |true=>
  refine to1 (call_meets F.slot_str_split (typeIs_str _ _ _) F.entry_str_split (F.args_str_split_2 _ _) (meets_str_split_cannot_occur (mkS l) ⟨#[c]⟩ t t' h1) ?_)
  refine itself ?_ Q kk
  rcases Bool.or_eq_true_iff.mp h1 with q|q
  ·have q:=of_decide_eq_true q
   rw [aK]at q
   have:l.length<1:=q
   have:l=[]:=List.length_eq_zero_iff.mp (by lia)
   simp [this]
  ·exact kind_free (mkS l) c (of_decide_eq_true q)
 |false=>
  cases h2:(occurrences (mkS l) ⟨#[c]⟩ 0 (mkS l).length ((mkS l).length+1)).isEmpty with
  |true=>
   refine to1 (call_meets F.slot_str_split (typeIs_str _ _ _) F.entry_str_split (F.args_str_split_2 _ _) (meets_str_split_not_found (mkS l) ⟨#[c]⟩ t t' h1 rfl h2) ?_)
   refine itself ?_ Q kk
   rw [hocc]at h2
   exact xZ (List.isEmpty_iff.mp h2)
  |false=>
   have hp:partsBetween (mkS l) (occurrences (mkS l) ⟨#[c]⟩ 0 (mkS l).length ((mkS l).length+1)) (⟨#[c]⟩:Str).length=(aD c l).map mkS:=by rw [hocc];exact xN l c
   refine to1 (call_meets F.slot_str_split (typeIs_str _ _ _) F.entry_str_split (F.args_str_split_2 _ _) (meets_str_split_sep (mkS l) ⟨#[c]⟩ t t' h1 rfl h2 hsz (by
    rw [hp,List.length_map,sizeLine_eq];have:=oG c l;lia)) ?_)
   show Q _ _
   rw [hp]
   refine kk _ _ _ ((R.pushNew (ao:=.list ((aD c l).map S)) ⟨_,0,rfl,Heap.get?_push_size _ rfl,mT _ _ _ fun p hp=> ?_⟩).toks (Nat.lt_of_lt_of_le R.tk (Nat.le_add_right _ _))) ((Next.pushNew _).toks _) (bV R _)
   have:=iU c l p hp
   rw [sizeLine_eq];lia
noncomputable def bN (c:Nat) (l:List Nat):List Nat×List Nat×List Nat:=match bO c l 0 with
 |i::_=>(l.take i,[c],l.drop (i+1))
 |[]=>(l,[],[])
theorem nQ (ha:cS a=some (mkS l)) (hl:l.length<1000000):DoesCall K n (.builtin "str.partition") [a,.str ⟨#[c]⟩] [] objs (.obj objs.length) (objs++[.tup [S (bN c l).1,S (bN c l).2.1,S (bN c l).2.2]]):=by
 intro x hx loc ρ vs kvs hv hk s Q E R kk
 refine aF fun gq hgq=> ?_
 cases hk
 cases hv with|cons d hv=>cases hv with|cons d2 hv=>
 cases hv
 refine aH (bK ha d) fun t q1_ zz=> ?_;subst q1_
 obtain⟨⟨t',rfl⟩,_⟩:=d2
 subst hgq
 have hsz:∀k:List Nat,k.length≤l.length+1→(mkS k).length≤sizeLine:=fun k hk=>by rw [aK,sizeLine_eq];lia
 refine to1 (call_meets F.slot_str_partition (typeIs_str _ _ _) F.entry_str_partition (F.args_str_partition_2 _ _) (meets_str_partition (mkS l) ⟨#[c]⟩ t t' rfl (hsz l (Nat.le_succ _))) ?_)
 show Q _ _
 have hocc:occurrences (mkS l) ⟨#[c]⟩ 0 (mkS l).length 1=(bO c l 0).take 1:=by rw [aK,sG,List.drop_zero]
 rw [hocc]
 have sub:∀(i j:Nat),strSub (mkS l) i j=mkS ((l.drop i).take (j - i)):=fun i j=>gG (by show(Array.extract l.toArray i j).toList=_;simp [mkS])
 have dS:∀(k:List Nat) (t:Tok) (ρ':List OA),k.length≤l.length+1→den ρ' (S k) (.str (mkS k) t):=fun k t ρ' hk=>⟨⟨t,rfl⟩,hsz k hk,(fun h=>by cases h),fun h=>by cases h⟩
 unfold bN at kk
 cases q:bO c l 0 with
 |nil=>
  rw [q]at kk
  simp only [List.take_nil]
  exact kk _ _ _ ((R.pushNew (ao:=.tup [S l,S [],S []]) ⟨[_,_,_],0,rfl,Heap.get?_push_size _ rfl,.cons (dS l _ _ (Nat.le_succ _)) (.cons (dS [] _ _ (Nat.zero_le _)) (.cons (dS [] _ _ (Nat.zero_le _)) .nil))⟩).toks (Nat.succ_pos _)) ((Next.pushNew _).toks _) (bV R _)
 |cons i r=>
  rw [q]at kk
  simp only [List.take_succ_cons,List.take_zero]
  have e1:strSub (mkS l) 0 i=mkS (l.take i):=by rw [sub];simp
  have e2:strSub (mkS l) (i+(⟨#[c]⟩:Str).length) (mkS l).length=mkS (l.drop (i+1)):=by
   rw [sub,aK]
   congr 1
   exact List.take_of_length_le (by simp)
  rw [e1,e2]
  exact kk _ _ _ ((R.pushNew (ao:=.tup [S (l.take i),S [c],S (l.drop (i+1))]) ⟨[_,_,_],0,rfl,Heap.get?_push_size _ rfl,.cons (dS _ _ _ (by simp;lia)) (.cons (dS [c] _ _ (by simp)) (.cons (dS _ _ _ (by simp;lia)) .nil))⟩).toks (Nat.succ_pos _)) ((Next.pushNew _).toks _) (bV R _)
theorem oE {ρ:List OA}:∀{ps:List (List Nat)} {vs:List Value},All2 (den ρ) (ps.map S) vs→∃l:List (Str×Tok),vs=strValues l∧l.map (·.1)=ps.map mkS
 |[],vs,h=>by cases h;exact⟨[],rfl,rfl⟩
 |p::r,vs,h=>by
  cases h with
  |cons d h=>
   obtain⟨⟨t,rfl⟩,_⟩:=d
   refine aH (oE h) fun l q1_ e=> ?_;subst q1_
   exact⟨(mkS p,t)::l,rfl,by simp [e]⟩
theorem aCo (z:Nat):∀(ps:List (List Nat)) (acc:Nat),(ps.map mkS).foldl (fun a s=>a+s.length+z) acc=acc+(ps.map fun p=>p.length+z).sum
 |[],acc=>by simp
 |p::r,acc=>by
  rw [List.map_cons,List.foldl_cons,aCo z r,aK]
  simp only [List.map_cons,List.sum_cons]
  lia
theorem xW (z:List Nat):∀ps:List (List Nat),(cT z ps).length≤(ps.map fun p=>p.length+z.length).sum
 |[]=>by simp [cT]
 |[p]=>by simp [cT]
 |p::q::r=>by
  have:=xW z (q::r)
  rw [cT]
  simp only [List.length_append,List.map_cons,List.sum_cons]at this⊢
  lia
theorem wN {sep:Str} {k:Nat} {ps:List (List Nat)} (ho:objs[k]?=some (.list (ps.map S))) (hl:(ps.map fun p=>p.length+sep.length).sum<1000000):
  DoesCall K n (.builtin "str.join") [.str sep,.obj k] [] objs (S (cT sep.cps.toList ps)) objs:=by
 intro x hx loc ρ vs kvs hv hk s Q E R kk
 refine aF fun gq hgq=> ?_
 cases hk
 cases hv with|cons d hv=>cases hv with|cons d2 hv=>
 cases hv
 obtain⟨⟨t,rfl⟩,_⟩:=d
 refine gP (R.lst ho d2) fun y us m hy q4_ hd h1 h2=> ?_;subst q4_
 refine aH (oE h2) fun l q1_ hl1=> ?_;subst q1_
 subst hgq
 have hsep:sep.cps.toList.length=sep.length:=Array.length_toList
 have htl:tooLong ((l.map (·.1)).toArray.foldl (· + ·.length+sep.length) 0)=false:=by
  rw [hl1]
  have:((ps.map mkS).toArray.foldl (· + ·.length+sep.length) 0)=(ps.map fun p=>p.length+sep.length).sum:=by
   rw [List.foldl_toArray]
   rw [aCo]
   simp
  rw [this]
  unfold tooLong
  rw [sizeLine_eq]
  exact decide_eq_false (by lia)
 have hjl:(cT sep.cps.toList ps).length≤sizeLine:=by
  have:=xW sep.cps.toList ps
  rw [hsep]at this
  rw [sizeLine_eq];lia
 have fin:∀(t:Tok) (k:Nat),0<k→Q (.str (mkS (cT sep.cps.toList ps)) t) {s with toks:=k}:=fun t k hk=>kk _ _ ρ (R.toks hk) ((Next.refl ..).toks _) ⟨⟨_,rfl⟩,by rw [aK];exact hjl,(fun h=>by cases h),fun h=>by cases h⟩
 refine to1 (call_meets F.slot_str_join (typeIs_str _ _ _) F.entry_str_join (F.args_str_join_2 _ _) (meets_str_join_list sep t y.a l htl) ⟨⟨_,h1,rfl,_,rfl⟩, ?_⟩)
 cases l with
 |nil=>
  have:ps=[]:=by simpa using hl1.symm
  subst this
  exact⟨by show 0≤_;exact Nat.zero_le _,fin _ _ (Nat.succ_pos _)⟩
 |cons p r=>
  cases r with
  |nil=>
   cases ps with
   |nil=>simp at hl1
   |cons q r=>
    simp only [List.map_cons,List.map_nil,List.cons.injEq]at hl1
    refine cK hl1 fun e1 e2=> ?_
    have:r=[]:=by simpa using e2.symm
    subst this
    obtain⟨x0,t0⟩:=p
    simp only at e1
    subst e1
    exact fin t0 s.toks R.tk
  |cons q r=>
   have e:joinMade sep (p::q::r)= .str (mkS (cT sep.cps.toList ps)):=by
    show Made.str (glued sep ((p::q::r).map (·.1)))=_
    rw [hl1,rE]
   rw [e]
   exact⟨by rw [aK];exact hjl,fin _ _ (Nat.succ_pos _)⟩
end
end Mine
end
section
namespace Mine
section
variable {prog:Program} {w:World} {A:Around} {E:Value→Shared→Prop} {s:Shared}
theorem iE {l:Addr} {items:Array Value} {t:Tok} {v:Value} {Q:Unit→Shared→Prop} (hl:s.heap.IsList l items) (hn:0<items.size)
  (hQ:∀o,s.heap.get? l=some o→Q () {s with heap:=s.heap.update l (Obj.mapSeq (·.setIfInBounds (items.size - 1) v))}):
  wpAny (model prog w) A (setItem (.ref l) (.int (-1) t) v) Q E s:=by
 refine aF fun gq hgq=> ?_
 obtain⟨o,ho,hc,ne,hd⟩:=id hl
 subst hgq
 unfold setItem
 try with_reducible refine wpAny_holding ?_
 first|refine wpAny_bind (wpAny_pure ?_)|skip
 refine wpAny_bind (wpAny_sequenceKey hl.typeIs (by decide) ?_)
 refine wpAny_bind (wpAny_callSpecial?_slot (name:=Str.ofString "__setitem__") hl.typeIs slot_list_setitem
  (wpAny_call_entry slot_list_setitem hl.typeIs entry_list_setitem ?_ (args_list_setitem _ _ _)))
 show wpAny _ _ (Builtin.List.listSubscript? (.int (-1) t)>>=_) _ _ s
 refine wpAny_bind (wpAny_listSubscript_int (fitsIndex_neg (by decide) (by decide)) ?_)
 have hidx:seqIndex? (-1) items.size=some (items.size - 1):=by
  rw [seqIndex_neg (by decide) (by omega)]
  congr 1
  omega
 have hx':items[items.size - 1]?=some items[items.size - 1]:=Array.getElem?_eq_getElem (by omega)
 show wpAny _ _ ((Builtin.List.listItems (.ref l)>>=fun xs=>pure ((seqIndex? (-1) xs.size).bind fun i=>xs[i]?.map (i, ·)))>>=_) _ _ s
 refine wpAny_bind (wpAny_bind ?_)
 show wpAny _ _ (seqItems? (.ref l)>>=_) _ _ s
 refine wpAny_bind (wpAny_seqItems ho hd (wpAny_pure (wpAny_pure ?_)))
 rw [hidx]
 simp only [Option.bind_some,hx',Option.map_some]
 show wpAny _ _ (setSeqItemAt l (items.size - 1) v>>=_) _ _ s
 refine wpAny_bind (wpAny_setSeqItemAt ho hd ?_)
 first
  |exact wpAny_bind (wpAny_pure (wpAny_pure ⟨.none,rfl,wpAny_pure (hQ _ ho)⟩))
  |exact wpAny_pure ⟨.none,rfl,wpAny_pure (hQ _ ho)⟩
end
section
variable {K:Params→Frag} {n:Nat} {sc:Scope} {st st₁ st₂ st₃:AS} {o i e:Expr} {k:Nat} {xs ys:List AV} {a b v:AV} {pos p:Pos}
theorem aC8 {M:Model} {A:Around} {E:Value→Shared→Prop} {s:Shared} {l:Addr} {items:Array Value} {Q:Bool→Shared→Prop} (hl:s.heap.IsList l items) (h:Q false s):wpAny M A (getitemInPython (.ref l)) Q E s:=by
 rw [getitemInPython_of_ne (by intro h;cases h)]
 exact wpAny_bind (wpAny_specialOf hl.typeIs list_getitem_lookup (wpAny_pure h))
noncomputable def uJ (xs:List AV) (j:Int):Option AV:=if 0≤j then xs[j.toNat]? else if -(xs.length:Int)≤j then xs[(j+xs.length).toNat]? else none
theorem oY {x:Cx} {ρ:List OA} {s:Shared} {Q:Value→Shared→Prop} {E:Value→Shared→Prop} {l:Addr} {vs:List Value} {m:Nat} {j:Int} {t:Tok} (h1:s.heap.get? l=some {cls:=.type "list",data:=.seq vs.toArray m}) (h2:All2 (den ρ) xs vs) (hj:uJ xs j=some a) (hb:xs.length<2^40)
  (kk:∀u,den ρ a u→Q u s):wpAny (mx x) x.A (getItem (.ref l) (.int j t)) Q E s:=by
 have hl:s.heap.IsList l vs.toArray:=⟨_,h1,rfl,_,rfl⟩
 have hlen:=h2.length
 unfold uJ at hj
 split at hj
 ·rename_i h0
  refine aH (h2.at hj) fun u hu du=> ?_
  have:j.toNat<xs.length:=(List.getElem?_eq_some_iff.mp hj).1
  exact to1 (wpAny_getItem_list hl h0 (by lia) (by simpa using hu) (kk u du))
 ·rename_i h0
  split at hj
  ·rename_i hle
   refine aH (h2.at hj) fun u hu du=> ?_
   refine to1 (wpAny_getItem_list_neg hl (by lia) (by simp only [List.size_toArray];lia) (by lia) ?_ (kk u du))
   simp only [List.size_toArray,List.getElem?_toArray]
   rw [←hlen]
   exact hu
  ·cases hj
theorem uY {j:Int} {z:Str} {zp:Pos} (hi:∀l u s q,i≠ .Slice l u s q) (h:DoesE K n sc (.Name z zp) st (.obj k) st₁) (hi2:DoesE K n sc i st₁ b st₂) (hb:jZ b=some j) (ho:st₂.objs[k]?=some (.list xs)) (hj:uJ xs j=some a) (hl:xs.length<2^40):
  DoesE K n sc (.Subscript (.Name z zp) i pos) st a st₂:=by
 intro x hx ρ s Q E R kk
 rw [arm_eval_Subscript]
 refine wpAny_bind (h x hx ρ s _ _ R fun u s₁ ρ₁ R₁ N₁ d=> ?_)
 refine wpAny_bind (wpAny_holding (hi2 x hx ρ₁ s₁ _ _ R₁ fun iv s₂ ρ₂ R₂ N₂ d2=> ?_))
 refine aF fun gq hgq=> ?_
 refine cB (dH hb d2) fun t q1_=> ?_;subst q1_
 refine gP (R₂.lst ho (N₂.den d)) fun y vs m hy q4_ hd h1 h2=> ?_;subst q4_
 subst hgq
 refine wpAny_bind (wpAny_standAt (wpAny_bind (aC8 ⟨_,h1,rfl,_,rfl⟩ (wpAny_bind ?_))))
 have e:subscripted i false (.ref y.a) (.int j t)=operate [.ref y.a,.int j t] (getItem (.ref y.a) (.int j t)):=by
  unfold subscripted
  cases i<;>first|rfl|exact absurd rfl (hi _ _ _ _)
 rw [e]
 refine wpAny_operate' (oY h1 h2 hj hl fun v dv=> ?_)
 exact wpAny_bind (wpAny_pure (wpAny_pure (kk v s₂ ρ₂ R₂ (N₁.trans N₂) dv)))
noncomputable def aEg (xs:List AV) (lo hi:Option Int):Option (List AV):=match lo with
 |none=>match hi with
  |none=>none
  |some h=>match h with
   | .ofNat b=>some (xs.take b)
   | .negSucc b=>some (xs.take (xs.length - (b+1)))
 |some h=>match h with
  | .negSucc _=>none
  | .ofNat a=>match hi with
   |none=>some (xs.drop a)
   |some _=>none
theorem aBf {ρ:List OA} {lo hi:Option Int} {vs:List Value} (h:aEg xs lo hi=some ys) (d:All2 (den ρ) xs vs):∃us:List Value,slicePick vs.toArray lo hi none=us.toArray∧All2 (den ρ) ys us:=by
 have take:∀(b:Nat) {xs:List AV} {vs:List Value},All2 (den ρ) xs vs→All2 (den ρ) (xs.take b) (vs.take b):=by
  intro b
  induction b with
  |zero=>intro xs vs d;simp;exact .nil
  |succ b ih=>intro xs vs d;cases d with|nil=>simp;exact .nil|cons p d=>simp;exact .cons p (ih d)
 have drop:∀(b:Nat) {xs:List AV} {vs:List Value},All2 (den ρ) xs vs→All2 (den ρ) (xs.drop b) (vs.drop b):=by
  intro b
  induction b with
  |zero=>intro xs vs d;simp;exact d
  |succ b ih=>intro xs vs d;cases d with|nil=>simp;exact .nil|cons p d=>simp;exact ih d
 cases lo with
 |none=>cases hi with
  |none=>exact bL h
  |some b=>cases b with
   |ofNat b=>cases h;exact⟨_,slicePick_upto' vs.toArray b,take b d⟩
   |negSucc b=>
    cases h
    have:=slicePick_butLast vs.toArray (b+1) (Nat.succ_pos _)
    have e:(some (Int.negSucc b):Option Int)=some (-((b+1:Nat):Int)):=rfl
    rw [e]
    refine⟨_,this, ?_⟩
    rw [d.length]
    simpa using take (vs.length - (b+1)) d
 |some a=>cases a with
  |negSucc _=>exact bL h
  |ofNat a=>cases hi with
   |none=>cases h;exact⟨_,slicePick_from' vs.toArray a,drop a d⟩
   |some _=>exact bL h
theorem xX {q:Option (Int×Tok)}:IsPart (partValue q) (q.map (·.1)):=by
 cases q with
 |none=>exact .none
 |some p=>exact .int p.1 p.2
noncomputable def yQ (K:Params→Frag) (n:Nat) (sc:Scope) (e:Option Expr) (st:AS) (j:Option Int) (st':AS):Prop:=∀x:Cx,x.Ok K n sc→∀ρ,Tri x ρ st (valueOrNone (evalOpt e x.env)) st' fun zz v=>∃q:Option (Int×Tok),v=partValue q∧q.map (·.1)=j
theorem nN:yQ K n sc none st none st:=fun x hx ρ=>Tri.pure ⟨none,rfl,rfl⟩
theorem nM {j:Int} (h:DoesE K n sc e st b st₁) (hb:jZ b=some j):yQ K n sc (some e) st (some j) st₁:=fun x hx ρ=>(h x hx ρ).imp fun ρ' v zz d=>by
 refine cB (dH hb d) fun t q1_=> ?_;subst q1_
 exact⟨some (j,t),rfl,rfl⟩
noncomputable def aP2 (objs:List AO) (k:Nat) (xs:List AV):Prop:=∀{hb:Heap} {L:Addr} {fr:List Env} {ρ:List OA} {loc:List (Str×AV)} {s:Shared} {v:Value},Rel hb L fr ρ ⟨loc,objs⟩ s→den ρ (.obj k) v→
 ∃(y:OA) (vs:List Value) (m:Nat),ρ[k]?=some y∧v= .ref y.a∧y.d=none∧s.heap.get? y.a=some {cls:=.type "list",data:=.seq vs.toArray m}∧All2 (den ρ) xs vs
theorem aJ3 {objs:List AO} {vs:List Value} {m:Nat} (ho:objs[k]?=some (.fix vs m)) (hv:∀ρ,All2 (den ρ) xs vs):aP2 objs k xs:=fun R d=>by
 refine aF fun gq hgq=> ?_
 refine aH d fun y hy q2_=> ?_;subst q2_
 refine iR (R.objs _ _ ho) fun y' hy' h1 h2=> ?_
 rw [hy]at hy'
 obtain rfl:=Option.some.inj hy'
 subst hgq
 exact⟨y,vs,m,hy,rfl,h1,h2,hv _⟩
theorem mR {z:Str} {zp:Pos} {lo hi:Option Expr} {jl ju:Option Int} (h:DoesE K n sc (.Name z zp) st (.obj k) st₁) (h1:yQ K n sc lo st₁ jl st₂) (h2:yQ K n sc hi st₂ ju st₃) (ho:aP2 st₃.objs k xs)
  (hs:aEg xs jl ju=some ys) (hl:xs.length≤sizeLine):DoesE K n sc (.Subscript (.Name z zp) (.Slice lo hi none p) pos) st (.obj st₃.objs.length) ⟨st₃.loc,st₃.objs++[.list ys]⟩:=by
 intro x hx ρ s Q E R kk
 rw [arm_eval_Subscript]
 refine wpAny_bind (h x hx ρ s _ _ R fun u s₁ ρ₁ R₁ N₁ d=> ?_)
 refine wpAny_bind (wpAny_holding ?_)
 rw [arm_eval_Slice]
 refine wpAny_bind (h1 x hx ρ₁ s₁ _ _ R₁ fun vl s₂ ρ₂ R₂ N₂ e₂=> ?_)
 refine wpAny_bind (wpAny_holding (h2 x hx ρ₂ s₂ _ _ R₂ fun vu s₃ ρ₃ R₃ N₃ e₃=> ?_))
 refine aF fun gq hgq=> ?_
 refine aH e₂ fun q q1_ q2_=> ?_;subst q1_;subst q2_
 refine aH e₃ fun q' q1_ q2_=> ?_;subst q1_;subst q2_
 subst hgq
 refine wpAny_bind (wpAny_holding (wpAny_pure ?_))
 refine wpAny_newObj_type ?_ (by show 3≤_;rw [sizeLine_eq];decide)
 have dk:=N₃.den (N₂.den d)
 refine aF fun gq hgq=> ?_
 refine gP (ho R₃ dk) fun y vs m hy q4_ hd g1 g2=> ?_;subst q4_
 subst hgq
 have hl1:s₃.heap.IsList y.a vs.toArray:=⟨_,g1,rfl,_,rfl⟩
 refine aH (aBf hs g2) fun us hus dus=> ?_
 refine wpAny_bind (wpAny_standAt ?_)
 have hpush:({s₃ with heap:=s₃.heap.push {cls:=.type "slice",data:=.fields #[partValue q,partValue q',.none]}}:Shared).heap.IsList y.a vs.toArray:=hl1.push _
 refine wpAny_bind (aC8 hpush ?_)
 refine wpAny_bind ?_
 show wpAny _ _ (operate _ (getItem _ _)) _ _ _
 refine wpAny_operate' (to1 (wpAny_getItem_list_slice hpush (Heap.IsSliceOf.new ..) xX xX .none (by simp) ?_ (by rw [List.size_toArray,←g2.length];exact hl)))
 refine wpAny_bind (wpAny_pure (wpAny_pure ?_))
 rw [hus]
 have RP:=R₃.push {cls:=.type "slice",data:=.fields #[partValue q,partValue q',.none]} R₃.tk
 have NP:=(N₁.trans (N₂.trans N₃)).push {cls:=.type "slice",data:=.fields #[partValue q,partValue q',.none]} s₃.toks
 refine kk _ _ _ (RP.pushNew (ao:=.list ys) ⟨us,0,rfl,Heap.get?_push_size _ rfl,dus.mono fun zz zz z=>cA z⟩) (NP.trans (Next.pushNew _)) (bV RP _)
theorem pI {z:Str} {zp:Pos} {lo hi:Option Expr} {jl ju:Option Int} (h:DoesE K n sc (.Name z zp) st (.obj k) st₁) (h1:yQ K n sc lo st₁ jl st₂) (h2:yQ K n sc hi st₂ ju st₃) (ho:st₃.objs[k]?=some (.list xs))
  (hs:aEg xs jl ju=some ys) (hl:xs.length≤sizeLine):DoesE K n sc (.Subscript (.Name z zp) (.Slice lo hi none p) pos) st (.obj st₃.objs.length) ⟨st₃.loc,st₃.objs++[.list ys]⟩:=mR h h1 h2 (fun R d=>R.lst ho d) hs hl
theorem xB {x:Cx} {ρ:List OA} {s:Shared} {y:OA} {vs:List Value} {m:Nat} {u:Value} (R:Rel x.hb x.L x.fr ρ st s) (hy:ρ[k]?=some y) (hd:y.d=none) (h1:s.heap.get? y.a=some {cls:=.type "list",data:=.seq vs.toArray m}) (h2:All2 (den ρ) (xs++[a]) vs) (du:den ρ v u):
  Rel x.hb x.L x.fr ρ {st with objs:=st.objs.set k (.list (xs++[v]))} {s with heap:=s.heap.update y.a (Obj.mapSeq (·.setIfInBounds (vs.toArray.size - 1) u))}:=by
 refine aF fun gq hgq=> ?_
 refine kK (h2.snoc) fun us w q2_ h3 h4=> ?_;subst q2_
 subst hgq
 have e1:∃m',Obj.mapSeq (·.setIfInBounds ((us++[w]).toArray.size - 1) u) {cls:=.type "list",data:=.seq (us++[w]).toArray m}={cls:=.type "list",data:=.seq (us++[u]).toArray m'}:=by
  have e:(us++[w]).toArray.setIfInBounds ((us++[w]).toArray.size - 1) u=(us++[u]).toArray:=by
   simp
  refine cB (Obj.data_mapSeq (o:={cls:=.type "list",data:=.seq (us++[w]).toArray m}) rfl (·.setIfInBounds ((us++[w]).toArray.size - 1) u)) fun m' hm=> ?_
  refine⟨m', ?_⟩
  rw [e]at hm
  have hc:=Obj.cls_mapSeq {cls:=.type "list",data:=.seq (us++[w]).toArray m} (·.setIfInBounds ((us++[w]).toArray.size - 1) u)
  unfold Obj.mapSeq at hm hc⊢
  simp only at hm hc⊢
  rw [hm]
 refine cB e1 fun m' e1=> ?_
 refine R.turn hy (.head _) ⟨us++[u],m',hd, ?_,h3.append (.cons du .nil)⟩
 rw [Heap.get?_update_self _ h1 (by rw [e1];rfl),e1]
theorem qZ:uJ (xs++[a]) (-1)=some a:=by
 unfold uJ
 rw [if_neg (by lia),if_pos (by simp;lia)]
 have:(-1+((xs++[a]).length:Int)).toNat=xs.length:=by simp;lia
 rw [this]
 simp
theorem wG {z:Str} {zp:Pos} (hc:dY e=false) (he:DoesE K n sc e st v st₁) (h:DoesE K n sc (.Name z zp) st₁ (.obj k) st₂) (hi2:DoesE K n sc i st₂ (.int (-1)) st₃) (ho:st₃.objs[k]?=some (.list (xs++[a]))):
  DoesS K n sc (.Assign [.Subscript (.Name z zp) i p] e pos) st .next ⟨st₃.loc,st₃.objs.set k (.list (xs++[v]))⟩:=by
 intro x hx ρ s Q E R kk
 rw [arm_exec_Assign]
 refine wpAny_bind (wpAny_standAt ?_)
 show wpAny _ _ (swapsWith e (some (.Subscript (.Name z zp) i p)) pos.line x.env>>=_) _ _ _
 rw [gT hc,pR (by intros;exact nofun) (by intros;exact nofun)]
 show wpAny _ _ (eval e x.env>>=fun v=>(do assignAll v [assign (.Subscript (.Name z zp) i p) x.env];pure Flow.next)) _ _ _
 refine wpAny_bind (he x hx ρ s _ _ R fun u s₁ ρ₁ R₁ N₁ du=> ?_)
 show wpAny _ _ ((do assign (.Subscript (.Name z zp) i p) x.env u)>>=fun zz=>pure Flow.next) _ _ _
 refine wpAny_bind ?_
 rw [arm_assign_Subscript]
 refine wpAny_bind (wpAny_holding (h x hx ρ₁ s₁ _ _ R₁ fun ov s₂ ρ₂ R₂ N₂ d2=> ?_))
 refine wpAny_bind (wpAny_holding (hi2 x hx ρ₂ s₂ _ _ R₂ fun iv s₃ ρ₃ R₃ N₃ d3=> ?_))
 refine aF fun gq hgq=> ?_
 refine cB d3 fun t q1_=> ?_;subst q1_
 refine gP (R₃.lst ho (N₃.den d2)) fun y vs m hy q4_ hd g1 g2=> ?_;subst q4_
 subst hgq
 have hne:0<vs.toArray.size:=by rw [List.size_toArray,←g2.length];simp
 refine wpAny_bind (wpAny_standAt (wpAny_bind (wpAny_holding (to1 (iE ⟨_,g1,rfl,_,rfl⟩ hne fun o ho=> ?_)))))
 refine wpAny_release (wpAny_pure ?_)
 exact kk _ _ ρ₃ (xB R₃ hy hd g1 g2 (N₃.den (N₂.den du))) (N₁.trans (N₂.trans (N₃.trans (Next.turn hy (.head _))))) rfl
theorem uW {z:Str} {zp:Pos} {c:AV} (hsl:∀l u s q,i≠ .Slice l u s q) (h:DoesE K n sc (.Name z zp) st (.obj k) st₁) (hi2:DoesE K n sc i st₁ (.int (-1)) st₂) (ho:st₂.objs[k]?=some (.list (xs++[a]))) (he:DoesE K n sc e st₂ b st₃) (ho2:st₃.objs[k]?=some (.list (xs++[a]))) (hl:xs.length<2^30)
  {y1 y2:Str} (ha:cS a=some y1) (hb:cS b=some y2) (hsz:y1.length+y2.length≤sizeLine):
  DoesS K n sc (.AugAssign (.Subscript (.Name z zp) i p) .Add e pos) st .next ⟨st₃.loc,st₃.objs.set k (.list (xs++[.sym none (y1++y2)]))⟩:=by
 intro x hx ρ s Q E R kk
 rw [arm_exec_AugAssign_3]
 refine wpAny_bind (wpAny_standAt (wpAny_bind (h x hx ρ s _ _ R fun ov s₁ ρ₁ R₁ N₁ d1=> ?_)))
 refine wpAny_bind (wpAny_holding (hi2 x hx ρ₁ s₁ _ _ R₁ fun iv s₂ ρ₂ R₂ N₂ d2=> ?_))
 refine aF fun gq hgq=> ?_
 refine cB d2 fun t q1_=> ?_;subst q1_
 refine gP (R₂.lst ho (N₂.den d1)) fun y vs m hy q4_ hd g1 g2=> ?_;subst q4_
 subst hgq
 refine wpAny_bind (wpAny_holding (wpAny_bind (wpAny_standAt ?_)))
 refine wpAny_bind (oY g1 g2 qZ (by simp;lia) fun u du=> ?_)
 refine wpAny_bind (wpAny_holding (he x hx ρ₂ s₂ _ _ R₂ fun w s₃ ρ₃ R₃ N₃ d3=> ?_))
 refine aF fun gq hgq=> ?_
 refine aH (bK ha (N₃.den du)) fun t1 q1_ zz=> ?_;subst q1_
 refine aH (bK hb d3) fun t2 q1_ zz=> ?_;subst q1_
 subst hgq
 refine gK R₃.tk ?_
 refine wpAny_bind (wpAny_standAt (wpAny_operate' (to1 (SBL.iadd (fun t' m2 zz=> ?_) hsz))))
 refine aF fun gq hgq=> ?_
 refine gP (R₃.lst ho2 (N₃.den (N₂.den d1))) fun y' vs' m' hy' hr' hd' g1' g2'=> ?_
 subst hgq
 have hyy:ρ₃[k]?=some y:=gW N₃.to hy
 rw [hyy]at hy'
 obtain rfl:=Option.some.inj hy'
 have hne:0<vs'.toArray.size:=by rw [List.size_toArray,←g2'.length];simp
 intro hm
 refine wpAny_bind (wpAny_standAt ?_)
 have e:augStore i (.ref y.a) (.int (-1) t) (.str (y1++y2) t')=(do holding [.str (y1++y2) t',.ref y.a,.int (-1) t] (setItem (.ref y.a) (.int (-1) t) (.str (y1++y2) t'));release [.str (y1++y2) t',.ref y.a,.int (-1) t] [];pure .next):=by
  unfold augStore
  cases i<;>first|rfl|exact absurd rfl (hsl _ _ _ _)
 rw [e]
 refine wpAny_bind (wpAny_holding (to1 (iE ⟨_,g1',rfl,_,rfl⟩ hne fun o ho=> ?_)))
 refine wpAny_bind (wpAny_release (wpAny_pure ?_))
 have R4:Rel x.hb x.L x.fr ρ₃ st₃ {s₃ with toks:=m2}:=R₃.toks hm
 exact kk _ _ ρ₃ (xB (v:=.sym none (y1++y2)) R4 hyy hd' g1' g2' ⟨⟨_,rfl⟩,by rw [Str.length_append];exact hsz,(fun h=>by cases h),fun h=>by cases h⟩) (((N₁.trans (N₂.trans N₃)).toks m2).trans (Next.turn hyy (.head _))) rfl
theorem uZ {o':Expr} {k':Nat} (h:DoesE K n sc o st (.obj k) st₁) (h':DoesE K n sc o' st₁ (.obj k') st₂) (ho:st₂.objs[k]?=some (.list xs)) (ho':st₂.objs[k']?=some (.list ys)) (hz:xs.length+ys.length≤sizeLine):
  DoesE K n sc (.BinOp o .Add o' pos) st (.obj st₂.objs.length) ⟨st₂.loc,st₂.objs++[.list (xs++ys)]⟩:=by
 intro x hx ρ s Q E R kk
 rw [arm_eval_BinOp]
 refine wpAny_bind (h x hx ρ s _ _ R fun u s₁ ρ₁ R₁ N₁ d=> ?_)
 refine wpAny_bind (wpAny_holding (h' x hx ρ₁ s₁ _ _ R₁ fun u' s₂ ρ₂ R₂ N₂ d'=> ?_))
 refine aF fun gq hgq=> ?_
 refine gP (R₂.lst ho (N₂.den d)) fun y vs m hy q4_ hd g1 g2=> ?_;subst q4_
 refine gP (R₂.lst ho' d') fun y' vs' m' hy' q4_ hd' g1' g2'=> ?_;subst q4_
 subst hgq
 refine wpAny_bind (wpAny_standAt (wpAny_operate' (to1 ?_)))
 have e:vs.toArray++vs'.toArray=(vs++vs').toArray:=by simp
 refine concat_meets ⟨_,g1,rfl⟩ ⟨_,g1',rfl⟩ noFill_list_add seq_list_add PySem.F.slot_list_add PySem.F.entry_list_add (PySem.F.args_list_add_2 _ _) (list_addW y.a y'.a vs.toArray vs'.toArray m m' none none #[] #[] (by simp only [List.size_toArray];rw [←g2.length,←g2'.length];exact hz)) ⟨g1,g1', ?_⟩
 rw [e]
 exact kk _ _ _ (R₂.pushNew (ao:=.list (xs++ys)) ⟨vs++vs',0,rfl,Heap.get?_push_size _ rfl,(g2.append g2').mono fun zz zz q=>cA q⟩) ((N₁.trans N₂).trans (Next.pushNew _)) (bV R₂ _)
end
end Mine
end
section
namespace Mine
noncomputable def aBo:List Str→List AV→List (Str×AV)→List (Str×AV)
 |y::ys,a::as,loc=>aBo ys as (put y a loc)
 |_,_,loc=>loc
noncomputable def locals (sc:Scope) (ys:List Str):Bool:=ys.all fun y=>match cP y sc.names with|some .local=>true|_=>false
theorem mK {ts:List Expr} {e:Expr} {env env':Env} (h:env.scope=env'.scope):swappedStores ts e env=swappedStores ts e env':=by
 unfold swappedStores Env.blockKind Env.kindOf
 rw [h]
noncomputable def dA (ys:List (Str×Pos)):List Expr:=ys.map fun y=>.Name y.1 y.2
section
variable {K:Params→Frag} {n:Nat} {sc:Scope} {st st₁ st₂ st₃:AS} {o i e:Expr} {k:Nat} {xs ys:List AV} {a b v:AV} {pos p:Pos}
theorem xC {x:Cx} (hx:x.Ok K n sc):∀(ns:List Str) (as:List AV) (vs:List Value) (ρ:List OA) (st:AS),locals sc ns=true→All2 (den ρ) as vs→Tri x ρ st (assignInOrder (ns.map fun n=>bindName x.env n) vs) {st with loc:=aBo ns as st.loc} fun zz zz=>True
 |[],as,vs,ρ,st,_,_=>by
  show Tri x ρ st (assignInOrder [] vs) _ _
  cases vs<;>exact Tri.pure trivial
 |y::ns,[],vs,ρ,st,_,h=>by cases h;exact Tri.pure trivial
 |y::ns,a::as,vs,ρ,st,hl,h=>by
  cases h with
  | @cons _ u _ us d h=>
   simp only [locals,List.all_cons,Bool.and_eq_true]at hl
   have hk:sc.names.lookup y=some .local:=by
    rw [aN]
    have:=hl.1
    split at this
    ·assumption
    ·cases this
   show Tri x ρ st (do holding us (bindName x.env y u);assignInOrder (ns.map fun n=>bindName x.env n) us) _ _
   refine Tri.bind (Tri.holding (cI hx hk d)) fun ρ₁ zz ex zz=> ?_
   exact xC hx ns as us ρ₁ {st with loc:=put y a st.loc} hl.2 (ex.dens h)
theorem jD (env:Env):∀ys:List (Str×Pos),assignEach (dA ys) env=ys.map fun y=>(false,assign (.Name y.1 y.2) env)
 |[]=>rfl
 |y::ys=>by
  show(false,assign (.Name y.1 y.2) env)::assignEach (dA ys) env=_
  rw [jD env ys]
  rfl
theorem qM {x:Cx} (hx:x.Ok K n sc):∀(ns:List (Str×Pos)) (as:List AV) (vs:List Value) (ρ:List OA) (st:AS),locals sc (ns.map (·.1))=true→All2 (den ρ) as vs→
  Tri x ρ st (assignInOrder (ns.map fun y=>assign (.Name y.1 y.2) x.env) vs) {st with loc:=aBo (ns.map (·.1)) as st.loc} fun zz zz=>True
 |[],as,vs,ρ,st,_,_=>by
  show Tri x ρ st (assignInOrder [] vs) _ _
  cases vs<;>exact Tri.pure trivial
 |y::ns,[],vs,ρ,st,_,h=>by cases h;exact Tri.pure trivial
 |y::ns,a::as,vs,ρ,st,hl,h=>by
  cases h with
  | @cons _ u _ us d h=>
   simp only [locals,List.map_cons,List.all_cons,Bool.and_eq_true]at hl
   have hk:sc.names.lookup y.1=some .local:=by
    rw [aN]
    have:=hl.1
    split at this
    ·assumption
    ·cases this
   show Tri x ρ st (do holding us (assign (.Name y.1 y.2) x.env u);assignInOrder (ns.map fun y=>assign (.Name y.1 y.2) x.env) us) _ _
   rw [arm_assign_Name]
   refine Tri.bind (p:=fun zz zz=>True) (Tri.holding (Tri.standAt (cI hx hk d))) fun ρ₁ zz ex zz=> ?_
   exact qM hx ns as us ρ₁ {st with loc:=put y.1 a st.loc} hl.2 (ex.dens h)
theorem sR {x:Cx} {ρ:List OA} (hx:x.Run K n) (ho:st.objs[k]?=some (.tup xs)) {u:Value} (d:den ρ (.obj k) u) {m:Nat} (hm:m=xs.length):Tri x ρ st (unpackItems u m none) st fun ρ' vs=>All2 (den ρ') xs vs:=by
 intro s Q E R kk
 refine gP (R.tpl ho d) fun y vs m' hy q4_ hd h1 h2=> ?_;subst q4_
 have e:m=vs.toArray.size:=by rw [hm,List.size_toArray,h2.length]
 rw [e]
 refine to1 (wpAny_unpackItems_tuple hx.handled ⟨_,h1,rfl,_,rfl⟩ fun h' hk=> ?_)
 have keep:∀b o,s.heap.get? b=some o→h'.get? b=some o:=fun b o e=>hk b o (Nat.ne_of_lt (Heap.lt_size e)) e
 exact kk _ _ ρ (R.grow keep) (.grow keep) h2
theorem pF {ts:List (Str×Pos)} {ek:Nat} (hc:dY e=false) (h:DoesE K n sc e st (.obj k) st₁) (ho:st₁.objs[k]?=some (.tup xs)) (hn:ts.length=xs.length) (hl:locals sc (ts.map (·.1))=true)
  (hw:swappedStores [.Tuple (dA ts) ek p] e {(default:Env)with scope:=sc}=pure none):
  DoesS K n sc (.Assign [.Tuple (dA ts) ek p] e pos) st .next {st₁ with loc:=aBo (ts.map (·.1)) xs st₁.loc}:=by
 intro x hx ρ s Q E R kk
 refine Assign_Tuple (h x hx ρ s _ _ R fun u s₁ ρ₁ R₁ N₁ d=> ?_) (show swapsWith e (some (.Tuple (dA ts) ek p)) pos.line x.env=pure false from gT hc) ((mK hx.scope).trans hw)
 rw [arm_assign_Tuple]
 refine wpAny_bind (m:=standAt p) (wpAny_standAt ?_)
 unfold unpack
 rw [jD]
 have e1:(ts.map fun y=>((false,assign (.Name y.1 y.2) x.env):Bool×(Value→Sem Unit))).findIdx? (·.1)=none:=by
  rw [List.findIdx?_eq_none_iff]
  intro z hz
  refine aH (List.mem_map.mp hz) fun w zz q2_=> ?_;subst q2_
  rfl
 rw [e1,List.length_map,List.map_map]
 refine wpAny_bind (wpAny_holding ((sR hx.toRun ho d hn) s₁ _ _ R₁ fun vs s₂ ρ₂ R₂ N₂ dv=> ?_))
 exact(qM hx ts xs vs ρ₂ st₁ hl dv) s₂ _ _ R₂ fun zz s₃ ρ₃ R₃ N₃ zz=>kk _ s₃ ρ₃ R₃ (N₁.trans (N₂.trans N₃)) rfl
theorem All2.reverse {α β:Type} {P:α→β→Prop} {l:List α} {r:List β} (h:All2 P l r):All2 P l.reverse r.reverse:=by
 induction h with
 |nil=>exact .nil
 |cons p h ih=>rw [List.reverse_cons,List.reverse_cons];exact ih.append (.cons p .nil)
theorem iQ {ts:List (Str×Pos)} {ek:Nat} (hc:dY e=false) (h:DoesE K n sc e st (.obj k) st₁) (ho:st₁.objs[k]?=some (.tup xs)) (hn:ts.length=xs.length) (hl:locals sc (ts.map (·.1)).reverse=true)
  (hw:swappedStores [.Tuple (dA ts) ek p] e {(default:Env)with scope:=sc}=pure (some (ts.map (·.1)))):
  DoesS K n sc (.Assign [.Tuple (dA ts) ek p] e pos) st .next {st₁ with loc:=aBo (ts.map (·.1)).reverse xs.reverse st₁.loc}:=by
 intro x hx ρ s Q E R kk
 refine Assign_Tuple_swapped (names:=ts.map (·.1)) (h x hx ρ s _ _ R fun u s₁ ρ₁ R₁ N₁ d=> ?_) (show swapsWith e (some (.Tuple (dA ts) ek p)) pos.line x.env=pure false from gT hc) ((mK hx.scope).trans hw)
 refine(sR hx.toRun ho d (by rw [List.length_map];exact hn)) s₁ _ _ R₁ fun vs s₂ ρ₂ R₂ N₂ dv=> ?_
 exact(xC hx (ts.map (·.1)).reverse xs.reverse vs.reverse ρ₂ st₁ hl dv.reverse) s₂ _ _ R₂ fun zz s₃ ρ₃ R₃ N₃ zz=>kk _ s₃ ρ₃ R₃ (N₁.trans (N₂.trans N₃)) rfl
theorem aJj {e1 e2:Expr} {b1:Bool} (h1:DoesE K n sc e1 st (.bool b1) st₁) (h2:b1=true→DoesE K n sc e2 st₁ v st₂) (h3:b1=false→v= .bool false∧st₂=st₁):DoesE K n sc (.BoolOp .And [e1,e2] pos) st v st₂:=by
 intro x hx ρ s Q E R kk
 rw [arm_eval_BoolOp]
 show wpAny _ _ (eval e1 x.env>>=fun v=>standAt pos>>=fun zz=>holding [v] (truthy v)>>=fun t=>match BoolOp.And,t with| .And,false| .Or,true=>pure v|_,_=>boolOp pos .And [eval e2 x.env]) _ _ _
 refine wpAny_bind (h1 x hx ρ s _ _ R fun u s₁ ρ₁ R₁ N₁ d=> ?_)
 cases d
 refine wpAny_bind (wpAny_standAt (wpAny_bind (wpAny_holding (to1 (wpAny_truthy_bool ?_)))))
 cases b1 with
 |true=>exact h2 rfl x hx ρ₁ s₁ _ _ R₁ fun w s₂ ρ₂ R₂ N₂ d=>kk w s₂ ρ₂ R₂ (N₁.trans N₂) d
 |false=>
  refine cK (h3 rfl) fun q0_ q1_=> ?_;subst q0_;subst q1_
  exact wpAny_pure (kk _ s₁ ρ₁ R₁ N₁ rfl)
set_option maxRecDepth 4000 in
theorem eA {apos p1 p2:Pos} {k1 k2 c:Nat} {z l:List Nat} {y zs:Str} (ht:TabOk K mZ) (hy:y=⟨#[c]⟩) (hz:zs=mkS z) (hp:dG o=true) (hln:Nat.beq apos.endLine pos.line=true) (h:DoesE K n sc o st a st₁) (ha:cS a=some (mkS l))
  (hne:z≠ [c]) (hsz:l.length*(z.length+1)+l.length+z.length<1000000):
  DoesE K n sc (.Call (.Attribute o "replace" apos) [.Constant (.str y) k1 p1,.Constant (.str zs) k2 p2] [] pos) st (S (aQ c z l)) st₁:=by
 subst hy hz
 intro x hx ρ s Q E R kk
 rw [arm_eval_Call,hK hp]
 refine wpAny_bind (h x hx ρ s _ _ R fun u s₁ ρ₁ R₁ N₁ d=> ?_)
 refine aH (bK ha d) fun t q1_ hl=> ?_;subst q1_
 refine wpAny_bind (wpAny_standAt ?_)
 have hf:methodCallForm 2 (backTo pos (starEach [Expr.Constant (.str ⟨#[c]⟩) k1 p1,.Constant (.str (mkS z)) k2 p2] x.env)) (backToKw pos (keywordEach [] x.env))=true:=rfl
 unfold methodCall
 rw [show([Expr.Constant (.str ⟨#[c]⟩) k1 p1,.Constant (.str (mkS z)) k2 p2].length+([]:List Keyword).length)=2 from rfl,hf]
 have hpos:methodCallPos true o x.env apos pos=pure pos:=by
  unfold methodCallPos
  have:(apos.endLine==pos.line)=true:=by simpa using Nat.eq_of_beq_eq_true hln
  rw [this];rfl
 rw [hpos]
 have hm:hM "str" "replace" "str.replace":=ht.str _ _ (by kernel_rfl)
 refine wpAny_bind (wpAny_holding (jG (ρ:=ρ₁) (st:=st₁) (K:=K x.w.params) hm s₁ _ _ R₁ fun r s₂ ρ₂ R₂ N₂ hr=> ?_))
 refine cK hr fun q0_ hk=> ?_;subst q0_
 show wpAny _ _ (callWith pos (.builtin "str.replace") [.str (mkS l) t] _ _) _ _ _
 refine gK R₂.tk (callWith_of (P:=fun h=>(K x.w.params).In h) rfl (fun h X=>dB hk X) ?_)
 unfold evalArgs
 refine wpAny_bind ?_
 show wpAny _ _ (spliced [(false,eval (.Constant (.str ⟨#[c]⟩) k1 p1) x.env),(false,eval (.Constant (.str (mkS z)) k2 p2) x.env)]) _ _ _
 refine spliced_cons (wpAny_Constant_str (spliced_cons (wpAny_Constant_str (wpAny_pure ?_))))
 refine wpAny_bind (wpAny_pure ?_)
 refine wpAny_holding ?_
 refine wpAny_pure ?_
 refine⟨hx.glo.X.keeps R₂.base, ?_⟩
 have hzl:(mkS z).length=z.length:=aK z
 have hll:(mkS l).length=l.length:=aK l
 have hmul:(l.length+1)*z.length≤l.length*(z.length+1)+z.length:=by
  rw [Nat.succ_mul,Nat.mul_succ];lia
 refine to1 (SC.replace (Nat.ne_of_gt R₂.tk) (Nat.succ_ne_zero _) (Nat.ne_of_lt (Nat.lt_succ_self _)) ?_ (by rw [hzl,hll];lia) fun t' m=> ?_)
 ·rw [jU,sEq_ne]
  intro q
  have:=congrArg (fun s:Str=>s.cps.toList) q
  exact hne this.symm
 ·intro hm
  rw [aBl]
  have:=cF c z l
  refine kk _ _ ρ₂ (R₂.toks hm) ((N₁.trans N₂).toks m) ⟨⟨_,rfl⟩,by rw [aK,sizeLine_eq];lia,(fun h=>by cases h),fun h=>by cases h⟩
end
end Mine
end
section
namespace Mine
noncomputable def bM:Array Nat:= #[14,4,0,1,4294967295,7,14,17,0,24,6,1,4294967295,20,91,1,17,1,15,37,17,17,2,16,91,26,5,0,4294967295,2,1,16,93,17,3,15,20,18,17,4,16,91,24,6,0,4294967295,20,93,1,6,5,17,5,15,2,0,1]
noncomputable def iB:Nat→Sre.M→Sre.M
 |0,m=>m
 |n+1,m=>iB n m.step
theorem aI3 {m:Sre.M} (h:m.outcome.isSome=true):m.step=m:=by unfold Sre.M.step;rw [if_pos h]
theorem gU {m:Sre.M} (h:m.outcome.isSome=true):∀n,iB n m=m
 |0=>rfl
 |n+1=>by rw [iB,aI3 h];exact gU h n
theorem oO:∀(n:Nat) (m:Sre.M),Sre.M.runFor n m=iB n m
 |0,m=>rfl
 |n+1,m=>by
  unfold Sre.M.runFor
  split
  ·rename_i h;rw [gU h]
  ·exact oO n m.step
theorem gL:∀(a b:Nat) (m:Sre.M),iB (a+b) m=iB b (iB a m)
 |0,b,m=>by rw [Nat.zero_add];rfl
 |a+1,b,m=>by rw [Nat.succ_add];exact gL a b m.step
noncomputable def Ends (N:Nat) (m:Sre.M) (P:Sre.M→Prop):Prop:=∃k,k≤N∧(iB k m).outcome.isSome=true∧P (iB k m)
theorem Ends.now {m:Sre.M} {P:Sre.M→Prop} (h:m.outcome.isSome=true) (p:P m):Ends 0 m P:=⟨0,Nat.le_refl _,h,p⟩
theorem Ends.step {N:Nat} {m:Sre.M} {P:Sre.M→Prop} (h:Ends N m.step P):Ends (N+1) m P:=let ⟨k,a,b,c⟩:=h;⟨k+1,Nat.succ_le_succ a,b,c⟩
theorem Ends.to {N:Nat} {m m':Sre.M} {P:Sre.M→Prop} (e:m.step=m') (h:Ends N m' P):Ends (N+1) m P:=.step (by rw [e];exact h)
theorem Ends.le {N N':Nat} {m:Sre.M} {P:Sre.M→Prop} (h:Ends N m P) (q:N≤N'):Ends N' m P:=let ⟨k,a,b,c⟩:=h;⟨k,Nat.le_trans a q,b,c⟩
section
variable {M:Model} {A:Around} {E:Value→Shared→Prop} {s:Shared}
theorem nJ {P:Sre.M→Prop} {Q:Sre.M→Shared→Prop}:∀(turns N:Nat) (m:Sre.M),Ends N m P→N<4*turns→(∀m',m'.outcome.isSome=true→P m'→Q m' s)→wpAny M A (Builtin.Re.reDrive turns m) Q E s
 |0,N,m,_,h,_=>by lia
 |turns+1,N,m,h,hN,hq=>by
  refine iR h fun k h1 h2 h3=> ?_
  unfold Builtin.Re.reDrive
  dsimp only
  have e4:Sre.M.runFor Builtin.Re.reTurnSteps m=iB 4 m:=oO 4 m
  rw [e4]
  by_cases hd:(iB 4 m).outcome.isSome=true
  ·rw [if_pos hd]
   have:iB 4 m=iB k m:=by
    rcases Nat.le_total k 4 with q|q
    ·refine cB (Nat.le.dest q) fun d hd'=> ?_
     rw [←hd',gL,gU h2]
    ·refine cB (Nat.le.dest q) fun d q1_=> ?_;subst q1_
     rw [gL,gU hd]
   refine wpAny_pure (hq _ hd ?_)
   rw [this];exact h3
  ·rw [if_neg hd]
   have hk:4<k:=by
    rcases Nat.lt_or_ge 4 k with q|q
    ·exact q
    ·exfalso
     refine cB (Nat.le.dest q) fun d hd'=> ?_
     apply hd
     rw [←hd',gL,gU h2]
     exact h2
   refine cB (Nat.le.dest (Nat.le_of_lt hk)) fun d q1_=> ?_;subst q1_
   refine wpAny_bind (wpAny_rule (nJ turns (N - 4) (iB 4 m) ⟨d,by lia,by rw [←gL];exact h2,by rw [←gL];exact h3⟩ (by lia) hq))
theorem jK (m:Sre.M) {Q:PUnit→Shared→Prop} (h:Q PUnit.unit s):∀(l:List Nat),wpAny M A (forIn l PUnit.unit fun i (_:PUnit)=>(if m.seen.has i=true then(do rule (Sre.names.getD i "");pure (ForInStep.yield PUnit.unit))else pure (ForInStep.yield PUnit.unit):Sem (ForInStep PUnit))) Q E s
 |[]=>by
  rw [List.forIn_nil]
  exact wpAny_pure h
 |i::l=>by
  rw [List.forIn_cons]
  refine wpAny_bind ?_
  split
  ·exact wpAny_bind (wpAny_rule (wpAny_pure (jK m h l)))
  ·exact wpAny_pure (jK m h l)
theorem mN {N:Nat} {m:Sre.M} {P:Sre.M→Prop} {Q:Option Sre.M→Shared→Prop} (h:Ends N m fun m'=>m'.outcome=some .matched∧P m') (hN:N<4*2^64) (hq:∀m',P m'→Q (some m') s):wpAny M A (Builtin.Re.reRunToEnd m) Q E s:=by
 unfold Builtin.Re.reRunToEnd
 refine wpAny_bind (nJ (2^64) N m h hN fun m' zz hm=> ?_)
 refine wpAny_bind (jK m' ?_ _)
 rw [hm.1]
 exact wpAny_pure (hq m' hm.2)
theorem oU {N:Nat} {m:Sre.M} {Q:Option Sre.M→Shared→Prop} (h:Ends N m fun m'=>m'.outcome=some .failed) (hN:N<4*2^64) (hq:Q none s):wpAny M A (Builtin.Re.reRunToEnd m) Q E s:=by
 unfold Builtin.Re.reRunToEnd
 refine wpAny_bind (nJ (2^64) N m h hN fun m' zz hm=> ?_)
 refine wpAny_bind (jK m' ?_ _)
 rw [hm]
 exact wpAny_pure hq
end
end Mine
end
section
namespace Mine
noncomputable def mkM (t:Array Nat) (lim start pc pos handed:Nat) (o:Bool) (mk:Array (Option Nat)) (lm li:Int) (fr:List Sre.Frame) (w:Nat) (ans:Option Bool) (seen:Sre.Seen):Sre.M:=
 {code:=bM,text:=t,lim,start,lastStart:=lim,pc,pos,handed,outermost:=o,marks:=mk,lastmark:=lm,lastindex:=li,frames:=fr,weight:=w,answer:=ans,seen}
noncomputable def kp (lm li:Int):Sre.Kept:={lastmark:=lm,lastindex:=li,whole:=false,marks:= #[]}
noncomputable def f0 (p:Nat) (o:Bool):Sre.Frame:={wait:=.nextStart,pc:=5,pos:=p,outermost:=o}
noncomputable def fB (pc p:Nat) (o:Bool):Sre.Frame:={wait:=.nextBranch,pc:=pc,pos:=p,outermost:=o,kept:=kp (-1) (-1)}
noncomputable def fG (pc q:Nat) (o:Bool) (n:Int) (lm:Int):Sre.Frame:={wait:=.giveBack,pc:=pc,pos:=q,outermost:=o,count:=n,kept:=kp lm (-1)}
noncomputable def fT (q:Nat) (o:Bool) (n:Int):Sre.Frame:={wait:=.takeMore,pc:=25,pos:=q,outermost:=o,count:=n,kept:=kp 2 (-1)}
section
variable (t:Array Nat) (lim start p q hd:Nat) (o:Bool) (a b c d e f:Option Nat) (fr:List Sre.Frame) (w:Nat) (seen:Sre.Seen) (lm li:Int)
theorem st5:(mkM t lim start 5 p hd o #[a,b,c,d,e,f] (-1) (-1) fr 1 none seen).step=mkM t lim start 7 p p o #[a,b,c,d,e,f] (-1) (-1) (fB 6 p o::fr) 2 none (seen.add 7):=by kernel_rfl
theorem st7:(mkM t lim start 7 p hd o #[a,b,c,d,e,f] (-1) (-1) fr w none seen).step=mkM t lim start 9 p hd o #[some p,b,c,d,e,f] 0 (-1) fr w none (seen.add 17):=by kernel_rfl
theorem aSl:(mkM t lim start 16 p hd o #[a,b,c,d,e,f] 0 (-1) fr w none seen).step=mkM t lim start 18 p hd o #[a,some p,c,d,e,f] 1 1 fr w none (seen.add 17):=by kernel_rfl
theorem aSk:(mkM t lim start 18 p hd o #[a,b,c,d,e,f] lm li fr w none seen).step=mkM t lim start 56 p hd o #[a,b,c,d,e,f] lm li fr w none (seen.add 15):=by kernel_rfl
theorem aPg:(mkM t lim start 56 p hd o #[a,b,c,d,e,f] lm li fr w none seen).step=mkM t lim start 56 p p o #[a,b,c,d,e,f] lm li fr w (some true) (seen.add 1):=by cases o<;>kernel_rfl
theorem aSj:(mkM t lim start 21 p hd o #[a,b,c,d,e,f] (-1) (-1) fr w none seen).step=mkM t lim start 23 p hd o #[none,none,some p,d,e,f] 2 (-1) fr w none (seen.add 17):=by kernel_rfl
theorem aSg:(mkM t lim start 33 p hd o #[a,b,c,d,e,f] 2 (-1) fr w none seen).step=mkM t lim start 35 p hd o #[a,b,c,some p,e,f] 3 2 fr w none (seen.add 17):=by kernel_rfl
theorem aSf:(mkM t lim start 35 p hd o #[a,b,c,d,e,f] lm li fr w none seen).step=mkM t lim start 56 p hd o #[a,b,c,d,e,f] lm li fr w none (seen.add 15):=by kernel_rfl
theorem aR7:(mkM t lim start 38 p hd o #[a,b,c,d,e,f] (-1) (-1) fr w none seen).step=mkM t lim start 40 p hd o #[none,none,none,none,some p,f] 4 (-1) fr w none (seen.add 17):=by kernel_rfl
theorem aSc:(mkM t lim start 51 p hd o #[a,b,c,d,e,f] 4 (-1) fr w none seen).step=mkM t lim start 53 p hd o #[a,b,c,d,e,some p] 5 3 fr w none (seen.add 17):=by kernel_rfl
theorem aSb:(mkM t lim start 53 p hd o #[a,b,c,d,e,f] lm li fr w none seen).step=mkM t lim start 56 p hd o #[a,b,c,d,e,f] lm li fr w none (seen.add 15):=by kernel_rfl
theorem aM5 (yes:Bool):(mkM t lim start p q hd o #[a,b,c,d,e,f] lm li [] w (some yes) seen).step={mkM t lim start p q hd o #[a,b,c,d,e,f] lm li [] w (some yes) seen with outcome:=some (if yes then .matched else .failed)}:=by cases yes<;>kernel_rfl
theorem vL (p0:Nat) (o0:Bool):(mkM t lim start p q hd o #[a,b,c,d,e,f] lm li (f0 p0 o0::fr) w (some true) seen).step=mkM t lim start 5 p0 hd o0 #[a,b,c,d,e,f] lm li fr (w - 1) (some true) seen:=by kernel_rfl
theorem gA (pc p0:Nat) (o0:Bool):(mkM t lim start p q hd o #[a,b,c,d,e,f] lm li (fB pc p0 o0::fr) w (some true) seen).step=mkM t lim start pc p0 hd o0 #[a,b,c,d,e,f] lm li fr (w - 1) (some true) seen:=by kernel_rfl
theorem mW (pc p0:Nat) (o0:Bool) (n k:Int):(mkM t lim start p q hd o #[a,b,c,d,e,f] lm li (fG pc p0 o0 n k::fr) w (some true) seen).step=mkM t lim start pc p0 hd o0 #[a,b,c,d,e,f] lm li fr (w - 1) (some true) seen:=by kernel_rfl
theorem wV (p0:Nat) (o0:Bool) (n:Int):(mkM t lim start p q hd o #[a,b,c,d,e,f] lm li (fT p0 o0 n::fr) w (some true) seen).step=mkM t lim start 25 p0 hd o0 #[a,b,c,d,e,f] lm li fr (w - 1) (some true) seen:=by kernel_rfl
theorem aFr (p0:Nat) (o0:Bool):(mkM t lim start p q hd o #[a,b,c,d,e,f] lm li (fB 6 p0 o0::fr) 2 (some false) seen).step=mkM t lim start 21 p0 p0 o0 #[a,b,c,d,e,f] (-1) (-1) (fB 20 p0 o0::fr) 2 none seen:=by kernel_rfl
theorem rQ (p0:Nat) (o0:Bool):(mkM t lim start p q hd o #[a,b,c,d,e,f] lm li (fB 20 p0 o0::fr) 2 (some false) seen).step=mkM t lim start 38 p0 p0 o0 #[a,b,c,d,e,f] (-1) (-1) (fB 37 p0 o0::fr) 2 none seen:=by kernel_rfl
theorem aDa (p0:Nat) (o0:Bool):(mkM t lim start p q hd o #[a,b,c,d,e,f] lm li (fB 37 p0 o0::fr) 2 (some false) seen).step=mkM t lim start 37 p0 hd o0 #[a,b,c,d,e,f] (-1) (-1) fr 1 (some false) seen:=by kernel_rfl
theorem wW (p0:Nat) (o0:Bool):(mkM t lim start p q hd o #[a,b,c,d,e,f] lm li (f0 p0 o0::[]) 1 (some false) seen).step=
  if p0<lim then mkM t lim (p0+1) 5 (p0+1) (p0+1) false #[a,b,c,d,e,f] (-1) (-1) (f0 (p0+1) false::[]) 1 none seen else mkM t lim start 5 p0 hd o0 #[a,b,c,d,e,f] lm li [] 0 (some false) seen:=by kernel_rfl
noncomputable def stick (m:Sre.M) (why:String):Sre.M:=m.stick why
theorem st9 (r:Except String (Nat×Sre.Seen)) (hr:Sre.run bM t 13 (min 4294967295 ((lim:Int) - (p:Int)).toNat) p 0 ((seen.add 24).add 20)=r) (hp:p<lim) (n:Nat) (sn:Sre.Seen) (he:r= .ok (n,sn)) (hn:1≤n):
  (mkM t lim start 9 p hd o #[a,b,c,d,e,f] 0 (-1) fr 2 none seen).step=mkM t lim start 16 (p+n) (p+n) o #[a,b,c,d,e,f] 0 (-1) (fG 9 (p+n) o n 0::fr) 3 none sn:=by
 have h1:(mkM t lim start 9 p hd o #[a,b,c,d,e,f] 0 (-1) fr 2 none seen).step=if(1:Int)>(lim:Int) - (p:Int)then mkM t lim start 9 p hd o #[a,b,c,d,e,f] 0 (-1) fr 2 (some false) (seen.add 24)else
   match Sre.run bM t 13 (min 4294967295 ((lim:Int) - (p:Int)).toNat) p 0 ((seen.add 24).add 20)with
   | .error why=>(mkM t lim start 9 p hd o #[a,b,c,d,e,f] 0 (-1) fr 2 none (seen.add 24)).stick why
   | .ok (n,sn)=>if n<1 then mkM t lim start 9 p hd o #[a,b,c,d,e,f] 0 (-1) fr 2 (some false) sn else mkM t lim start 16 (p+n) (p+n) o #[a,b,c,d,e,f] 0 (-1) (fG 9 (p+n) o n 0::fr) 3 none sn:=by kernel_rfl
 rw [h1,if_neg (by omega),hr,he]
 simp only
 rw [if_neg (by omega)]
theorem aPf (r:Except String (Nat×Sre.Seen)) (hr:Sre.run bM t 13 (min 4294967295 ((lim:Int) - (p:Int)).toNat) p 0 ((seen.add 24).add 20)=r) (sn:Sre.Seen) (he:r= .ok (0,sn)) (hp:p<lim):
  (mkM t lim start 9 p hd o #[a,b,c,d,e,f] 0 (-1) fr 2 none seen).step=mkM t lim start 9 p hd o #[a,b,c,d,e,f] 0 (-1) fr 2 (some false) sn:=by
 have h1:(mkM t lim start 9 p hd o #[a,b,c,d,e,f] 0 (-1) fr 2 none seen).step=if(1:Int)>(lim:Int) - (p:Int)then mkM t lim start 9 p hd o #[a,b,c,d,e,f] 0 (-1) fr 2 (some false) (seen.add 24)else
   match Sre.run bM t 13 (min 4294967295 ((lim:Int) - (p:Int)).toNat) p 0 ((seen.add 24).add 20)with
   | .error why=>(mkM t lim start 9 p hd o #[a,b,c,d,e,f] 0 (-1) fr 2 none (seen.add 24)).stick why
   | .ok (n,sn)=>if n<1 then mkM t lim start 9 p hd o #[a,b,c,d,e,f] 0 (-1) fr 2 (some false) sn else mkM t lim start 16 (p+n) (p+n) o #[a,b,c,d,e,f] 0 (-1) (fG 9 (p+n) o n 0::fr) 3 none sn:=by kernel_rfl
 rw [h1,if_neg (by omega),hr,he]
 rfl
theorem aSi:(mkM t lim start 23 p hd o #[a,b,c,d,e,f] lm li fr w none seen).step=if p≥lim then mkM t lim start 23 p hd o #[a,b,c,d,e,f] lm li fr w (some false) (seen.add 16)else
  cond (t.getD p 0==91) (mkM t lim start 25 (p+1) hd o #[a,b,c,d,e,f] lm li fr w none (seen.add 16)) (mkM t lim start 23 p hd o #[a,b,c,d,e,f] lm li fr w (some false) (seen.add 16)):=by kernel_rfl
theorem aR8:(mkM t lim start 31 p hd o #[a,b,c,d,e,f] lm li fr w none seen).step=if p≥lim then mkM t lim start 31 p hd o #[a,b,c,d,e,f] lm li fr w (some false) (seen.add 16)else
  cond (t.getD p 0==93) (mkM t lim start 33 (p+1) hd o #[a,b,c,d,e,f] lm li fr w none (seen.add 16)) (mkM t lim start 31 p hd o #[a,b,c,d,e,f] lm li fr w (some false) (seen.add 16)):=by kernel_rfl
theorem aSe:(mkM t lim start 40 p hd o #[a,b,c,d,e,f] lm li fr w none seen).step=if p≥lim then mkM t lim start 40 p hd o #[a,b,c,d,e,f] lm li fr w (some false) (seen.add 16)else
  cond (t.getD p 0==91) (mkM t lim start 42 (p+1) hd o #[a,b,c,d,e,f] lm li fr w none (seen.add 16)) (mkM t lim start 40 p hd o #[a,b,c,d,e,f] lm li fr w (some false) (seen.add 16)):=by kernel_rfl
theorem aSh:(mkM t lim start 25 p hd o #[a,b,c,d,e,f] 2 (-1) fr 2 none seen).step=if(0:Int)>(lim:Int) - (p:Int)then mkM t lim start 25 p hd o #[a,b,c,d,e,f] 2 (-1) fr 2 (some false) (seen.add 26)else
  mkM t lim start 31 (p+0) (p+0) o #[a,b,c,d,e,f] 2 (-1) (fT (p+0) o 0::fr) 3 none ((seen.add 26).add 2):=by kernel_rfl
theorem aSd (r:Except String (Nat×Sre.Seen)) (hr:Sre.run bM t 46 (min 4294967295 ((lim:Int) - (p:Int)).toNat) p 0 ((seen.add 24).add 20)=r) (hp:p≤lim) (n:Nat) (sn:Sre.Seen) (he:r= .ok (n,sn)):
  (mkM t lim start 42 p hd o #[a,b,c,d,e,f] 4 (-1) fr 2 none seen).step=mkM t lim start 49 (p+n) (p+n) o #[a,b,c,d,e,f] 4 (-1) (fG 42 (p+n) o n 4::fr) 3 none sn:=by
 have h1:(mkM t lim start 42 p hd o #[a,b,c,d,e,f] 4 (-1) fr 2 none seen).step=if(0:Int)>(lim:Int) - (p:Int)then mkM t lim start 42 p hd o #[a,b,c,d,e,f] 4 (-1) fr 2 (some false) (seen.add 24)else
   match Sre.run bM t 46 (min 4294967295 ((lim:Int) - (p:Int)).toNat) p 0 ((seen.add 24).add 20)with
   | .error why=>(mkM t lim start 42 p hd o #[a,b,c,d,e,f] 4 (-1) fr 2 none (seen.add 24)).stick why
   | .ok (n,sn)=>if n<0 then mkM t lim start 42 p hd o #[a,b,c,d,e,f] 4 (-1) fr 2 (some false) sn else mkM t lim start 49 (p+n) (p+n) o #[a,b,c,d,e,f] 4 (-1) (fG 42 (p+n) o n 4::fr) 3 none sn:=by kernel_rfl
 rw [h1,if_neg (by omega),hr,he]
 simp only
 rw [if_neg (by omega)]
theorem aPh:(mkM t lim start 49 p hd o #[a,b,c,d,e,f] lm li fr w none seen).step=if((p==lim||(p+1==lim&&t.getD p 0==10))=true)then mkM t lim start 51 p hd o #[a,b,c,d,e,f] lm li fr w none ((seen.add 6).add 48)else mkM t lim start 49 p hd o #[a,b,c,d,e,f] lm li fr w (some false) ((seen.add 6).add 48):=by kernel_rfl
theorem jV (p0:Nat) (o0:Bool) (n:Int):(mkM t lim start p q hd o #[a,b,c,d,e,f] lm li (fT p0 o0 n::fr) 3 (some false) seen).step=
  if(decide (n+1>(4294967295:Int))&&(4294967295 !=4294967295))=true then mkM t lim start 25 p0 hd o0 #[a,b,c,d,e,f] 2 (-1) fr 2 (some false) seen else
  if p0≥lim then mkM t lim start 25 p0 hd o0 #[a,b,c,d,e,f] 2 (-1) fr 2 (some false) seen else
  cond (t.getD p0 0 !=10) (mkM t lim start 31 (p0+1) (p0+1) o0 #[a,b,c,d,e,f] 2 (-1) (fT (p0+1) o0 (n+1)::fr) 3 none seen) (mkM t lim start 25 p0 hd o0 #[a,b,c,d,e,f] 2 (-1) fr 2 (some false) seen):=by kernel_rfl
theorem pL (p0:Nat) (o0:Bool) (n:Int):(mkM t lim start p q hd o #[a,b,c,d,e,f] lm li (fG 42 p0 o0 n 4::fr) 3 (some false) seen).step=
  if n - 1<0 then mkM t lim start 42 p0 hd o0 #[a,b,c,d,e,f] 4 (-1) fr 2 (some false) seen else
  mkM t lim start 49 (p0 - 1) (p0 - 1) o0 #[a,b,c,d,e,f] 4 (-1) (fG 42 (p0 - 1) o0 (n - 1) 4::fr) 3 none seen:=by kernel_rfl
end
end Mine
end
section
namespace Mine
inductive Kd where
 |plain|set|opn
 deriving DecidableEq
noncomputable def cU:List Nat→Option Nat
 |[]=>none
 |c::r=>if c=93 then some 0 else if c=10 then none else(cU r).map (· +1)
noncomputable def cJ:List Nat→Nat→Option (Kd×Nat×Nat)
 |[],_=>none
 |c::r,p=>if c≠91 then some (.plain,p,p+1+(r.takeWhile (· !=91)).length)else match cU r with
  |some k=>some (.set,p,p+1+k+1)
  |none=>if 93∈r then cJ r (p+1)else some (.opn,p,p+1+r.length)
noncomputable def PM (k:Kd) (b e:Nat) (m:Sre.M):Prop:=m.start=b∧m.handed=e∧match k with
 | .plain=>m.lastmark=1∧∃c d x y,m.marks= #[some b,some e,c,d,x,y]
 | .set=>m.lastmark=3∧∃x y,m.marks= #[none,none,some b,some e,x,y]
 | .opn=>m.lastmark=5∧m.marks= #[none,none,none,none,some b,some e]
theorem fD {l:List Nat} {p c:Nat} {r:List Nat} (h:l.drop p=c::r):l.toArray.getD p 0=c∧p<l.length∧l.drop (p+1)=r:=by
 have h0:l[p]?=some c:=by
  have:(l.drop p)[0]?=some c:=by rw [h];rfl
  rw [List.getElem?_drop]at this
  simpa using this
 have hlt:=(List.getElem?_eq_some_iff.mp h0).1
 refine⟨?_,hlt,by rw [←List.tail_drop,h];rfl⟩
 simp [Array.getD,hlt]
 exact(List.getElem?_eq_some_iff.mp h0).2
theorem uU {l:List Nat} {p:Nat} (h:l.drop p=[]):l.length≤p:=List.drop_eq_nil_iff.mp h
theorem aP1 (c:Nat) (seen:Sre.Seen):Sre.accepts bM 13 c seen= .ok (c !=91,seen):=by kernel_rfl
theorem aS0 (c:Nat) (seen:Sre.Seen):Sre.accepts bM 46 c seen= .ok (c !=93,seen):=by kernel_rfl
theorem lQ {l:List Nat} {i ch:Nat} (ha:∀c seen,Sre.accepts bM i c seen= .ok (c !=ch,seen)):∀(r:List Nat) (p found:Nat) (seen:Sre.Seen),l.drop p=r→
  Sre.run bM l.toArray i r.length p found seen= .ok (found+(r.takeWhile (· !=ch)).length,seen)
 |[],p,found,seen,_=>rfl
 |c::r,p,found,seen,h=>by
  refine rS (fD h) fun h1 h2 h3=> ?_
  rw [List.length_cons,Sre.run,h1,ha]
  show(if(c !=ch)=true then Sre.run bM l.toArray i r.length (p+1) (found+1) seen else pure (found,seen))=_
  rw [List.takeWhile_cons]
  cases q:c !=ch with
  |true=>
   rw [if_pos rfl,lQ ha r (p+1) (found+1) seen h3]
   simp
   lia
  |false=>rw [if_neg (by simp)];rfl
section
variable {l:List Nat} (hl:l.length<1000000)
include hl
theorem aEl {p:Nat} {r:List Nat} (h:l.drop p=r):min 4294967295 ((l.length:Int) - (p:Int)).toNat=r.length:=by
 have:r.length=l.length - p:=by rw [←h];simp
 lia
theorem aP6 {lim start p q hd:Nat} {o o0:Bool} {a b c d e f:Option Nat} {w:Nat} {seen:Sre.Seen} {lm li:Int} {P:Sre.M→Prop}
  (h:∀p,P {mkM l.toArray lim start 5 p hd o0 #[a,b,c,d,e,f] lm li [] (w - 1) (some true) seen with outcome:=some .matched}):Ends 2 (mkM l.toArray lim start p q hd o #[a,b,c,d,e,f] lm li [f0 start o0] w (some true) seen) P:=by
 refine .to (vL ..) (.to (aM5 ..) (.now rfl ?_))
 exact h _
theorem aMx {p c:Nat} {r:List Nat} (h:l.drop p=c::r) (hc:c≠91) (o:Bool) (hd:Nat) (a b c' d e f:Option Nat) (seen:Sre.Seen):
  Ends 10 (mkM l.toArray l.length p 5 p hd o #[a,b,c',d,e,f] (-1) (-1) [f0 p o] 1 none seen) (fun m'=>m'.outcome=some .matched∧PM .plain p (p+1+(r.takeWhile (· !=91)).length) m'):=by
 refine rS (fD h) fun h1 h2 h3=> ?_
 have hrun:=lQ aP1 (c::r) p 0 ((((seen.add 7).add 17).add 24).add 20) h
 have hn:((c::r).takeWhile (· !=91)).length=1+(r.takeWhile (· !=91)).length:=by
  rw [List.takeWhile_cons]
  have:(c !=91)=true:=by simpa using hc
  rw [this]
  simp;lia
 rw [hn]at hrun
 have e9:=st9 l.toArray l.length p p p o (some p) b c' d e f [fB 6 p o,f0 p o] ((seen.add 7).add 17) _ rfl h2 (1+(r.takeWhile (· !=91)).length) ((((seen.add 7).add 17).add 24).add 20) (by rw [aEl hl h,hrun,Nat.zero_add]) (by lia)
 refine .to (st5 ..) (.to (st7 ..) (.to e9 (.to (aSl ..) (.to (aSk ..) (.to (aPg ..) (.to (mW ..) (.to (gA ..) ?_)))))))
 have hpe:p+(1+(r.takeWhile (· !=91)).length)=p+1+(r.takeWhile (· !=91)).length:=by lia
 rw [hpe]
 exact aP6 hl fun q=>⟨rfl,rfl,rfl,rfl,_,_,_,_,rfl⟩
theorem aR3 {p:Nat} (o:Bool) (d e f:Option Nat) {P:Sre.M→Prop} {N:Nat}:
  ∀(r:List Nat) (q hd:Nat) (n:Int) (seen:Sre.Seen),l.drop q=r→(cU r=none→∀q hd seen,Ends N (mkM l.toArray l.length p 25 q hd o #[none,none,some p,d,e,f] 2 (-1) [fB 20 p o,f0 p o] 2 (some false) seen) P)→(∀k,cU r=some k→∀m',m'.outcome=some .matched→PM .set p (q+k+1) m'→P m')→
   Ends (N+2*r.length+10) (mkM l.toArray l.length p 31 q hd o #[none,none,some p,d,e,f] 2 (-1) [fT q o n,fB 20 p o,f0 p o] 3 none seen) P:=by
 have hb:∀n:Int,¬((decide (n+1>(4294967295:Int))&&((4294967295:Nat) !=4294967295))=true):=fun n=>by simp
 intro r
 induction r with
 |nil=>
  intro q hd n seen h hno hP
  have hq:=uU h
  refine Ends.le (.to ((aR8 ..).trans (if_pos hq)) (.to ((jV ..).trans ((if_neg (hb n)).trans (if_pos hq))) (hno rfl _ _ _))) (by lia)
 |cons c r ih=>
  intro q hd n seen h hno hP
  refine rS (fD h) fun h1 h2 h3=> ?_
  have e1:=aR8 l.toArray l.length p q hd o none none (some p) d e f [fT q o n,fB 20 p o,f0 p o] 3 seen 2 (-1)
  rw [if_neg (by lia),h1]at e1
  by_cases c93:c=93
  ·subst c93
   refine Ends.le (.to e1 (.to (aSg ..) (.to (aSf ..) (.to (aPg ..) (.to (wV ..) (.to (gA ..) (aP6 hl fun z=>hP 0 (by simp [cU]) _ rfl ⟨rfl,rfl,rfl,_,_,rfl⟩))))))) (by lia)
  ·have:(c==93)=false:=by simpa using c93
   rw [this]at e1
   have e2:=jV l.toArray l.length p q q hd o none none (some p) d e f [fB 20 p o,f0 p o] (seen.add 16) 2 (-1) q o n
   have e3:∀pc,(mkM l.toArray l.length p pc q hd o #[none,none,some p,d,e,f] 2 (-1) (fT q o n::[fB 20 p o,f0 p o]) 3 (some false) (seen.add 16)).step=_:=fun pc=>jV l.toArray l.length p pc q hd o none none (some p) d e f [fB 20 p o,f0 p o] (seen.add 16) 2 (-1) q o n
   have e4:=e3 31
   rw [if_neg (hb n),if_neg (by lia),h1]at e4
   by_cases c10:c=10
   ·subst c10
    refine Ends.le (.to e1 (.to e4 (hno (by simp [cU]) _ _ _))) (by lia)
   ·have:(c !=10)=true:=by simpa using c10
    rw [this]at e4
    refine Ends.le (.to e1 (.to e4 (ih (q+1) (q+1) (n+1) (seen.add 16) h3 (fun hs=>hno (by simp [cU,c93,c10,hs])) fun k hk m' ho hm=>hP (k+1) (by simp [cU,c93,c10,hk]) m' ho (by
     have:q+(k+1)+1=q+1+k+1:=by lia
     rw [this];exact hm)))) (by rw [List.length_cons];lia)
theorem aPb {p:Nat} (o:Bool) {P:Sre.M→Prop} {N:Nat} (f:Option Nat) (hno:∀q hd seen,Ends N (mkM l.toArray l.length p 42 q hd o #[none,none,none,none,some p,f] 4 (-1) [fB 37 p o,f0 p o] 2 (some false) seen) P):
  ∀(n q:Nat) (hd:Nat) (seen:Sre.Seen),q<l.length→(q+1<l.length∨l.toArray.getD q 0≠10)→n≤q→Ends (N+2*n+2) (mkM l.toArray l.length p 49 q hd o #[none,none,none,none,some p,f] 4 (-1) [fG 42 q o n 4,fB 37 p o,f0 p o] 3 none seen) P:=by
 intro n
 induction n with
 |zero=>
  intro q hd seen hq hq2 hn
  refine .to ((aPh ..).trans (if_neg ?_)) (.to ((pL ..).trans (if_pos (by decide))) (hno _ _ _))
  simp only [Bool.or_eq_true,beq_iff_eq,Bool.and_eq_true,not_or,not_and]
  exact⟨by lia,fun h=>hq2.resolve_left (by lia)⟩
 |succ n ih=>
  intro q hd seen hq hq2 hn
  have e1:¬(((n+1:Nat):Int) - 1<0):=by lia
  have e2:((n+1:Nat):Int) - 1=(n:Int):=by lia
  have:=(pL l.toArray l.length p 49 q hd o none none none none (some p) f [fB 37 p o,f0 p o] ((seen.add 6).add 48) 4 (-1) q o ((n+1:Nat):Int)).trans (if_neg e1)
  rw [e2]at this
  refine Ends.le (.to ((aPh ..).trans (if_neg ?_)) (.to this (ih (q - 1) (q - 1) _ (by lia) (.inl (by lia)) (by lia)))) (by lia)
  simp only [Bool.or_eq_true,beq_iff_eq,Bool.and_eq_true,not_or,not_and]
  exact⟨by lia,fun h=>hq2.resolve_left (by lia)⟩
theorem mJ {ch:Nat}:∀{r:List Nat},ch∉r→r.takeWhile (· !=ch)=r
 |[],_=>rfl
 |c::r,h=>by
  have:(c !=ch)=true:=by simpa using fun q=>h (by rw [q];exact .head _)
  rw [List.takeWhile_cons,this,if_pos rfl,mJ fun q=>h (.tail _ q)]
theorem kP {ch:Nat}:∀{r:List Nat},ch∈r→r[(r.takeWhile (· !=ch)).length]?=some ch
 |[],h=>by cases h
 |c::r,h=>by
  rw [List.takeWhile_cons]
  cases q:c !=ch with
  |true=>
   rw [if_pos rfl,List.length_cons,List.getElem?_cons_succ]
   refine kP ?_
   rcases List.mem_cons.mp h with z|z
   ·rw [z]at q;simp at q
   ·exact z
  |false=>
   have:c=ch:=by simpa using q
   rw [if_neg (by simp)]
   simp [this]
noncomputable def vB:List Nat→Nat
 |[]=>0
 |c::r=>vB r+5*r.length+60
theorem aBg:∀(r:List Nat) (p:Nat),l.drop p=r→r≠ []→∀(o:Bool) (hd:Nat) (a b c d e f:Option Nat) (seen:Sre.Seen),
  Ends (vB r) (mkM l.toArray l.length p 5 p hd o #[a,b,c,d,e,f] (-1) (-1) [f0 p o] 1 none seen) (fun m'=>m'.outcome=some .matched∧∃k b e,cJ r p=some (k,b,e)∧PM k b e m'):=by
 intro r
 induction r with
 |nil=>intro p _ hne;exact absurd rfl hne
 |cons ch r ih=>
  intro p h hne o hd a b c d e f seen
  refine rS (fD h) fun h1 h2 h3=> ?_
  by_cases hch:ch=91
  ·subst hch
   have hrun:=lQ aP1 (91::r) p 0 ((((seen.add 7).add 17).add 24).add 20) h
   have hn:((91::r).takeWhile (· !=91)).length=0:=by simp
   rw [hn]at hrun
   have e9:=aPf l.toArray l.length p p p o (some p) b c d e f [fB 6 p o,f0 p o] ((seen.add 7).add 17) _ rfl ((((seen.add 7).add 17).add 24).add 20) (by rw [aEl hl h,hrun]) h2
   have alt3:∀(hs:cU r=none) q hd seen,Ends (vB r+3*r.length+30) (mkM l.toArray l.length p 25 q hd o #[none,none,some p,d,e,f] 2 (-1) [fB 20 p o,f0 p o] 2 (some false) seen) (fun m'=>m'.outcome=some .matched∧∃k b e,cJ (91::r) p=some (k,b,e)∧PM k b e m'):=by
    intro hs q hd seen
    have e40:=aSe l.toArray l.length p p p o none none none none (some p) f [fB 37 p o,f0 p o] 2 (seen.add 17) 4 (-1)
    rw [if_neg (by lia),h1]at e40
    have hrun3:=lQ aS0 r (p+1) 0 (((((seen.add 17).add 16)).add 24).add 20) h3
    have e42:=aSd l.toArray l.length p (p+1) p o none none none none (some p) f [fB 37 p o,f0 p o] ((seen.add 17).add 16) _ rfl (by lia) (0+(r.takeWhile (· !=93)).length) _ (by rw [aEl hl h3,hrun3])
    rw [Nat.zero_add]at e42
    have hrl:r.length=l.length - (p+1):=by rw [←h3];simp
    by_cases h93:93∈r
    ·have hat:=kP hl h93
     have hlt:=(List.getElem?_eq_some_iff.mp hat).1
     have hg:l.toArray.getD (p+1+(r.takeWhile (· !=93)).length) 0=93:=by
      rw [←h3,List.getElem?_drop,h3]at hat
      have hlt':=(List.getElem?_eq_some_iff.mp hat).1
      simp [Array.getD,hlt']
      exact(List.getElem?_eq_some_iff.mp hat).2
     have hf:cJ (91::r) p=cJ r (p+1):=by simp [cJ,hs,h93]
     rw [hf]
     have hrne:r≠ []:=fun q=>by rw [q]at h93;cases h93
     have final:∀q hd seen,Ends (vB r+2) (mkM l.toArray l.length p 42 q hd o #[none,none,none,none,some p,f] 4 (-1) [fB 37 p o,f0 p o] 2 (some false) seen) (fun m'=>m'.outcome=some .matched∧∃k b e,cJ r (p+1)=some (k,b,e)∧PM k b e m'):=fun q hd seen=>
      .to (aDa ..) (.to ((wW ..).trans (if_pos h2)) (ih (p+1) h3 hrne false _ _ _ _ _ _ _ _))
     refine Ends.le (.to (rQ ..) (.to (aR7 ..) (.to e40 (.to e42 (aPb hl o f final _ _ _ _ (by lia) (.inr (by rw [hg];decide)) (by lia)))))) (by lia)
    ·have hall:=mJ hl h93
     rw [hall]at e42
     have hpos:p+1+r.length=l.length:=by lia
     rw [hpos]at e42
     have hf:cJ (91::r) p=some (.opn,p,l.length):=by simp [cJ,hs,h93];lia
     rw [hf]
     refine Ends.le (.to (rQ ..) (.to (aR7 ..) (.to e40 (.to e42 (.to ((aPh ..).trans (if_pos (by simp))) (.to (aSc ..) (.to (aSb ..) (.to (aPg ..) (.to (mW ..) (.to (gA ..) (aP6 hl fun z=>⟨rfl,_,_,_,rfl,rfl,rfl,rfl,rfl⟩))))))))))) (by lia)
   have e23:=aSi l.toArray l.length p p p o none none (some p) d e f [fB 20 p o,f0 p o] 2 ((((((seen.add 7).add 17).add 24).add 20)).add 17) 2 (-1)
   rw [if_neg (by lia),h1]at e23
   have e25:=aSh l.toArray l.length p (p+1) p o none none (some p) d e f [fB 20 p o,f0 p o] (((((((seen.add 7).add 17).add 24).add 20)).add 17).add 16)
   rw [if_neg (by lia)]at e25
   have pre:∀N P,Ends N (mkM l.toArray l.length p 31 (p+1) (p+1) o #[none,none,some p,d,e,f] 2 (-1) [fT (p+1) o 0,fB 20 p o,f0 p o] 3 none (((((((((seen.add 7).add 17).add 24).add 20)).add 17).add 16).add 26).add 2)) P→
     Ends (N+7) (mkM l.toArray l.length p 5 p hd o #[a,b,c,d,e,f] (-1) (-1) [f0 p o] 1 none seen) P:=fun N P hN=>
    .to (st5 ..) (.to (st7 ..) (.to e9 (.to (aFr ..) (.to (aSj ..) (.to e23 (.to e25 hN))))))
   refine Ends.le (pre _ _ (aR3 hl o d e f r (p+1) (p+1) 0 _ h3 alt3 fun k hk m' hm hpm=>⟨hm,.set,p,p+1+k+1,by simp [cJ,hk],hpm⟩)) (by show _≤vB r+5*r.length+60;lia)
  ·have hf:cJ (ch::r) p=some (.plain,p,p+1+(r.takeWhile (· !=91)).length):=by simp [cJ,hch]
   refine iR (aMx hl h hch o hd a b c d e f seen) fun k x y z=> ?_
   exact Ends.le ⟨k,x,y,z.1,_,_,_,hf,z.2⟩ (by unfold vB;lia)
omit hl in
theorem aGy:∀r:List Nat,vB r≤r.length*(5*r.length+60)
 |[]=>by simp [vB]
 |c::r=>by
  have ih:=aGy r
  have h1:r.length*(5*r.length+60)≤r.length*(5*(r.length+1)+60):=Nat.mul_le_mul_left _ (by lia)
  have h2:(r.length+1)*(5*(r.length+1)+60)=r.length*(5*(r.length+1)+60)+(5*(r.length+1)+60):=by rw [Nat.add_mul,Nat.one_mul]
  unfold vB
  rw [List.length_cons,h2]
  lia
theorem aO0 {r:List Nat} (h:r.length≤l.length):vB r+1<4*2^64:=by
 have h1:=aGy r
 have h2:r.length*(5*r.length+60)≤1000000*(5*1000000+60):=Nat.mul_le_mul (by lia) (by lia)
 lia
theorem lA {p:Nat} {r:List Nat} (h:l.drop p=r) (hne:r≠ []):Ends (vB r) (Sre.forSearch bM l.toArray 3 p l.length false) (fun m'=>m'.outcome=some .matched∧∃k b e,cJ r p=some (k,b,e)∧PM k b e m'):=by
 have hp:p<l.length:=by
  cases r with
  |nil=>exact absurd rfl hne
  |cons c r=>exact(fD h).2.1
 have e1:Sre.forSearch bM l.toArray 3 p l.length false=if(decide (p>l.length)||decide (l.length - p<1))=true then{mkM l.toArray l.length p 5 p p true #[none,none,none,none,none,none] (-1) (-1) [] 0 (some false) (({}:Sre.Seen).add 14)with lastStart:=0}else
   mkM l.toArray l.length p 5 p p true #[none,none,none,none,none,none] (-1) (-1) [f0 p true] 1 none (({}:Sre.Seen).add 14):=by kernel_rfl
 rw [e1,if_neg (by simp;lia)]
 exact aBg hl r p h hne _ _ _ _ _ _ _ _ _
theorem uO {p:Nat} (h:l.length≤p):Ends 1 (Sre.forSearch bM l.toArray 3 p l.length false) (fun m'=>m'.outcome=some .failed):=by
 have e1:Sre.forSearch bM l.toArray 3 p l.length false=if(decide (p>l.length)||decide (l.length - p<1))=true then{mkM l.toArray l.length p 5 p p true #[none,none,none,none,none,none] (-1) (-1) [] 0 (some false) (({}:Sre.Seen).add 14)with lastStart:=0}else
   mkM l.toArray l.length p 5 p p true #[none,none,none,none,none,none] (-1) (-1) [f0 p true] 1 none (({}:Sre.Seen).add 14):=by kernel_rfl
 rw [e1,if_pos (by simp;omega)]
 refine .to (m':={mkM l.toArray l.length p 5 p p true #[none,none,none,none,none,none] (-1) (-1) [] 0 (some false) (({}:Sre.Seen).add 14)with lastStart:=0,outcome:=some .failed}) (by kernel_rfl) (.now rfl rfl)
end
end Mine
end
section
namespace Mine
noncomputable def shCode:Array Nat:= #[14,17,4,1,1,21,9,0,604043296,1,0,0,0,0,0,8,4,0,13,14,21,9,0,604043296,1,0,0,0,0,0,8,4,0,1]
noncomputable def mA (c:Nat):Bool:=(decide (c<256)&&(shCode.getD (6+(1+c / 32)) 0).testBit (c%32))||Sre.isWord c
theorem aEj:∀c<256,mA c=bX c:=by decide+kernel
theorem oV {c:Nat}:∀{l:List Nat},(l.all fun d=>Nat.blt d 256)=true→¬c<256→mF c l=false
 |[],_,_=>rfl
 |d::l,h,hc=>by
  rw [List.all_cons,Bool.and_eq_true]at h
  have hd:d<256:=Nat.le_of_ble_eq_true h.1
  unfold mF
  rw [oV h.2 hc,Bool.or_false]
  exact Bool.eq_false_iff.mpr fun q=>by have:=Nat.eq_of_beq_eq_true q;omega
theorem aG9 (c:Nat):mA c=bX c:=by
 by_cases h:c<256
 ·exact aEj c h
 ·have h1:mA c=false:=by
   unfold mA Sre.isWord Sre.isDigit
   simp
   omega
  rw [h1]
  unfold bX
  rw [oV (by decide+kernel) h,oV (by decide+kernel) h,oV (by decide+kernel) h]
  rfl
theorem aQ4 (c:Nat) (seen:Sre.Seen):∃sn,Sre.inSet shCode c 34 5 true seen= .ok (!bX c,sn):=by
 have h:Sre.inSet shCode c 34 5 true seen=if(decide (c<256)&&(shCode.getD (6+(1+c / 32)) 0).testBit (c%32))=true then .ok (false,(seen.add 21).add 9)else
   (if(Sre.isWord c !=false)=true then .ok (false,((((seen.add 21).add 9).add 8).add (55+4)))else .ok (true,(((((seen.add 21).add 9).add 8).add (55+4)).add 0))):=by kernel_rfl
 rw [h,←aG9]
 unfold mA
 cases (decide (c<256)&&(shCode.getD (6+(1+c / 32)) 0).testBit (c%32))<;>cases Sre.isWord c<;>exact⟨_,rfl⟩
theorem aNq (c:Nat) (seen:Sre.Seen):∃sn,Sre.inSet shCode c 34 20 true seen= .ok (!bX c,sn):=by
 have h:Sre.inSet shCode c 34 20 true seen=if(decide (c<256)&&(shCode.getD (21+(1+c / 32)) 0).testBit (c%32))=true then .ok (false,(seen.add 21).add 9)else
   (if(Sre.isWord c !=false)=true then .ok (false,((((seen.add 21).add 9).add 8).add (55+4)))else .ok (true,(((((seen.add 21).add 9).add 8).add (55+4)).add 0))):=by kernel_rfl
 have hw:∀c<256,(shCode.getD (21+(1+c / 32)) 0)=(shCode.getD (6+(1+c / 32)) 0):=by decide+kernel
 have hx:(decide (c<256)&&(shCode.getD (21+(1+c / 32)) 0).testBit (c%32))=(decide (c<256)&&(shCode.getD (6+(1+c / 32)) 0).testBit (c%32)):=by
  by_cases q:c<256
  ·rw [hw c q]
  ·simp [q]
 rw [h,←aG9,hx]
 unfold mA
 cases (decide (c<256)&&(shCode.getD (6+(1+c / 32)) 0).testBit (c%32))<;>cases Sre.isWord c<;>exact⟨_,rfl⟩
noncomputable def kH (t:Array Nat) (lim start pc pos handed:Nat) (fr:List Sre.Frame) (w:Nat) (ans:Option Bool) (seen:Sre.Seen):Sre.M:=
 {code:=shCode,text:=t,lim,start,lastStart:=lim,pc,pos,handed,outermost:=true,marks:= #[],frames:=fr,weight:=w,answer:=ans,seen}
theorem aP0 {l:List Nat} {m:Sre.M} (hc:m.code=shCode) (ht:m.text=l.toArray) (hl:m.lim=l.length):∀(r:List Nat) (p fuel:Nat) (seen:Sre.Seen),l.drop p=r→r.length<fuel→
  ∃sn,(r.all bX=true∧Sre.M.admitted m fuel p seen= .ok (none,sn))∨(r.all bX=false∧∃q,q<l.length∧bX (l.toArray.getD q 0)=false∧Sre.M.admitted m fuel p seen= .ok (some q,sn))
 |[],p,fuel+1,seen,h,_=>by
  have:=uU h
  refine⟨seen,.inl ⟨rfl, ?_⟩⟩
  rw [Sre.M.admitted,if_pos (by rw [hl];exact this)]
 |c::r,p,fuel+1,seen,h,hf=>by
  refine rS (fD h) fun h1 h2 h3=> ?_
  refine cB (aQ4 c seen) fun sn hs=> ?_
  have e:Sre.M.admitted m (fuel+1) p seen=match Sre.inSet shCode c 34 5 true seen with
    | .ok (true,seen)=>.ok (some p,seen)
    | .ok (false,seen)=>Sre.M.admitted m fuel (p+1) seen
    | .error why=>.error why:=by
   rw [Sre.M.admitted,if_neg (by rw [hl];omega),hc,ht,h1]
   rfl
  rw [e,hs]
  cases q:bX c with
  |true=>
   obtain⟨sn',hh⟩:=aP0 hc ht hl r (p+1) fuel sn h3 (by simp at hf;omega)
   refine⟨sn', ?_⟩
   rw [List.all_cons,q,Bool.true_and]
   exact hh
  |false=>
   refine⟨sn,.inr ⟨by rw [List.all_cons,q];rfl,p,h2,by rw [h1];exact q,rfl⟩⟩
theorem aKv {l:List Nat} (hne:l≠ []):(l.all bX=true→Ends 1 (Sre.forSearch shCode l.toArray 0 0 l.length false) fun m'=>m'.outcome=some .failed)∧
  (l.all bX=false→Ends 4 (Sre.forSearch shCode l.toArray 0 0 l.length false) fun m'=>m'.outcome=some .matched∧True):=by
 have hpos:0<l.length:=by cases l with|nil=>exact absurd rfl hne|cons a l=>simp
 have e1:Sre.forSearch shCode l.toArray 0 0 l.length false=if(decide (0>l.length)||decide (l.length - 0<1))=true then{kH l.toArray l.length 0 18 0 0 [] 0 (some false) (({}:Sre.Seen).add 14)with lastStart:=0}else
   match Sre.M.admitted (kH l.toArray l.length 0 18 0 0 [] 0 none (({}:Sre.Seen).add 14)) (l.length+1 - 0) 0 (({}:Sre.Seen).add 14)with
   | .ok (some s,seen)=>kH l.toArray l.length s 18 s s [{wait:=.nextStart,pc:=18,pos:=s,outermost:=true}] 1 none seen
   | .ok (none,seen)=>kH l.toArray l.length 0 18 0 0 [] 0 (some false) seen
   | .error why=>(kH l.toArray l.length 0 18 0 0 [] 0 none (({}:Sre.Seen).add 14)).stick why:=by kernel_rfl
 rw [if_neg (by simp;omega)]at e1
 refine cB (aP0 (l:=l) (m:=kH l.toArray l.length 0 18 0 0 [] 0 none (({}:Sre.Seen).add 14)) rfl rfl rfl l 0 (l.length+1 - 0) (({}:Sre.Seen).add 14) (List.drop_zero) (by omega)) fun sn hh=> ?_
 rcases hh with⟨ha,he⟩|⟨ha,q,hq,hs,he⟩
 ·refine⟨fun zz=> ?_,fun h=>by rw [ha]at h;cases h⟩
  rw [e1,he]
  exact .to (m':={kH l.toArray l.length 0 18 0 0 [] 0 (some false) sn with outcome:=some .failed}) (by kernel_rfl) (.now rfl rfl)
 ·refine⟨fun h=>(by rw [ha]at h;cases h),fun zz=> ?_⟩
  rw [e1,he]
  simp only
  refine cB (aNq (l.toArray.getD q 0) (sn.add 13)) fun sn2 hs2=> ?_
  rw [hs]at hs2
  have s1:(kH l.toArray l.length q 18 q q [{wait:=.nextStart,pc:=18,pos:=q,outermost:=true}] 1 none sn).step=if q≥l.length then kH l.toArray l.length q 18 q q [{wait:=.nextStart,pc:=18,pos:=q,outermost:=true}] 1 (some false) (sn.add 13)else
    match Sre.inSet shCode (l.toArray.getD q 0) 34 20 true (sn.add 13)with
    | .error why=>(kH l.toArray l.length q 18 q q [{wait:=.nextStart,pc:=18,pos:=q,outermost:=true}] 1 none (sn.add 13)).stick why
    | .ok (false,seen)=>kH l.toArray l.length q 18 q q [{wait:=.nextStart,pc:=18,pos:=q,outermost:=true}] 1 (some false) seen
    | .ok (true,seen)=>kH l.toArray l.length q 33 (q+1) q [{wait:=.nextStart,pc:=18,pos:=q,outermost:=true}] 1 none seen:=by kernel_rfl
  rw [if_neg (by omega),hs2]at s1
  simp only [Bool.not_false]at s1
  have s2:(kH l.toArray l.length q 33 (q+1) q [{wait:=.nextStart,pc:=18,pos:=q,outermost:=true}] 1 none sn2).step=kH l.toArray l.length q 33 (q+1) (q+1) [{wait:=.nextStart,pc:=18,pos:=q,outermost:=true}] 1 (some true) (sn2.add 1):=by kernel_rfl
  have s3:(kH l.toArray l.length q 33 (q+1) (q+1) [{wait:=.nextStart,pc:=18,pos:=q,outermost:=true}] 1 (some true) (sn2.add 1)).step=kH l.toArray l.length q 18 q (q+1) [] 0 (some true) (sn2.add 1):=by kernel_rfl
  have s4:(kH l.toArray l.length q 18 q (q+1) [] 0 (some true) (sn2.add 1)).step={kH l.toArray l.length q 18 q (q+1) [] 0 (some true) (sn2.add 1)with outcome:=some .matched}:=by kernel_rfl
  exact .to s1 (.to s2 (.to s3 (.to s4 (.now rfl ⟨rfl,trivial⟩))))
end Mine
end
section
namespace Mine
open PySem.Builtin PySem.Builtin.Re
structure PatIn (K:Frag) (pa:Addr) (groups:Nat) (code:Array Nat):Prop where
 at_:∃dd vs sl ca,K.lookup pa=some ⟨.type "re.Pattern",dd,.fields vs,sl⟩∧vs.getD 2 .none=rawInt groups∧vs.getD 5 .none= .ref ca∧vs.getD 6 .none=rawInt 0∧
  ∃cc d2 xs n s2,K.lookup ca=some ⟨cc,d2,.seq xs n,s2⟩∧(xs.map reRawOf).map (·.toNat)=code
section
variable {prog:Program} {w:World} {M:Model} {A:Around} {E:Value→Shared→Prop} {s:Shared} {K:Frag} {pa:Addr} {groups:Nat} {code:Array Nat} {l:List Nat} {t:Tok}
theorem aPz (id f:String) (v:Value):reNamed id f ["string","pos","endpos"] 1 [v] []=pure [some v,none,none]:=by kernel_rfl
theorem tI {ca:Addr} {cc:Value} {d2:Option Addr} {xs:Array Value} {n:Nat} {s2:Array (Option Value)} {Q:Array Int→Shared→Prop} (h:s.heap.get? ca=some ⟨cc,d2,.seq xs n,s2⟩) (hq:Q (xs.map reRawOf) s):wpAny M A (reRawItems (.ref ca)) Q E s:=by
 unfold reRawItems
 exact wpAny_bind (wpAny_seqItems h rfl (wpAny_pure hq))
theorem zC {Q:Array Nat×Nat→Shared→Prop} {x:Str} (hq:Q (x.cps,0) s):wpAny M A (reTextOf (.str x t)) Q E s:=by
 unfold reTextOf
 exact wpAny_bind (m:=asStr? (.str x t)) (wpAny_pure (wpAny_pure hq))
theorem xL {id f:String} {Q:ReTarget→Shared→Prop} (X:K.In s.heap) (hp:PatIn K pa groups code) (hl:l.length<1000000)
  (hq:Q {pattern:=.ref pa,string:=.str (mkS l) t,code,text:=l.toArray,kind:=0,groups,pos:=0,lim:=l.length} s):wpAny M A (reTarget id f ⟨[.ref pa,.str (mkS l) t],[]⟩) Q E s:=by
 refine aF fun gq hgq=> ?_
 obtain⟨dd,vs,sl,ca,h1,h2,h3,h4,cc,d2,xs,n,s2,h5,h6⟩:=hp.at_
 subst hgq
 have e1:=X _ _ h1
 have e2:=X _ _ h5
 unfold reTarget
 dsimp only
 refine wpAny_bind ?_
 rw [aPz]
 refine wpAny_pure ?_
 dsimp only
 refine wpAny_bind (wpAny_pure (wpAny_bind (wpAny_pure (wpAny_bind (wpAny_fieldsOf e1 rfl (wpAny_bind (zC ?_)))))))
 rw [h4]
 show wpAny _ _ (reNoCollectionInside _ 0>>=_) _ _ _
 refine wpAny_bind (m:=reNoCollectionInside _ 0) (wpAny_pure ?_)
 rw [h3]
 refine wpAny_bind (tI e2 (wpAny_pure ?_))
 rw [h2,h6]
 have z:min (2^63 - 1:Int).toNat (mkS l).cps.size=l.length:=by
  have:(mkS l).cps.size=l.length:=by simp [mkS]
  rw [this]
  lia
 rw [z]
 have z0:min (0:Int).toNat (mkS l).cps.size=0:=by simp
 rw [z0]
 exact hq
theorem aA8 {a:Addr} {x:Str} {Q:Unit→Shared→Prop} {o:Obj} {vs:Array Value} (ho:s.heap.get? a=some o) (hc:o.cls= .type "re.Pattern") (hd:o.data= .fields vs) (hq:Q () s):wpAny M A (checkBoundCall "re.Pattern.search" ⟨[.ref a,.str x t],[]⟩) Q E s:=by
 have hT:s.TypeIs (.ref a) "re.Pattern":=⟨o,ho,hc⟩
 have h1:Manifest.signature? "re.Pattern.search"=some ⟨.keywords,"Pattern.search","search",.self,[⟨"string",.posOrKw,true⟩,⟨"pos",.posOrKw,false⟩,⟨"endpos",.posOrKw,false⟩]⟩:=by kernel_rfl
 have h2:builtinKind "re.Pattern.search"=some .method:=by kernel_rfl
 have h3:isSubtype (.type "re.Pattern") (.type "module")=pure false:=by rw [isSubtype_type];kernel_rfl
 have h4:isSubtype (.type "type") (.type "type")=pure true:=by rw [isSubtype_type];kernel_rfl
 simp only [checkBoundCall,h1,h2]
 have h5:Manifest.varargsMethods.contains "re.Pattern.search"=false:=by kernel_rfl
 refine wpAny_bind (wpAny_isInstance hT h3 ?_)
 simp only [h5,Bool.or_false,Bool.false_eq_true,if_false]
 refine wpAny_bind ?_
 refine wpAny_bind ?_
 refine wpAny_loadPart (part:=some headPart) ho (wpAny_pure ?_)
 rw [hd]
 refine wpAny_bind (wpAny_typeOf hT ?_)
 exact wpAny_of_eq (a:=()) (by kernel_rfl) hq
end
end Mine
end
section
namespace Mine
open PySem.Builtin PySem.Builtin.Re
structure Prog2 (K:Params→Frag):Prop extends Prog K where
 fu:∀P,(K P).lookup 745=some {cls:=.type "builtin_function_or_method",data:=.fields #[.builtin "re.Pattern.search",.ref 49]}
 ps:∀P,PatIn (K P) 49 0 shCode
 pg:∀P,PatIn (K P) 757 3 bM
 gd:∀P,(K P).lookup 754=some {cls:=.type "dict",data:=.dict #[⟨PyData.keyHash P "set",.str "set" 1309,.int 2 1310⟩] 1}
 pq:∀P,∃c dd vs sl,(K P).lookup 757=some ⟨c,dd,.fields vs,sl⟩∧vs.getD 3 .none= .ref 754
 pn:∀P,∃ob,(K P).lookup 757=some ob∧ob.cls= .type "re.Pattern"∧ob.dict=none
 gg:∀P,iO (K P) "twin_re_1_glob" (.ref 757)
 f752:FnIs K 752 (aC aR 24)
 b752:∀v,Binds K 752 [v] [] [("s",v)]
 f744:FnIs K 744 (aC aR 22)
 b744:∀v,Binds K 744 [v] [] [("s",v),("comments",.bool false),("posix",.bool true)]
 f764:FnIs K 764 (aC aR 27)
 b764:∀v,Binds K 764 [v] [] [("pattern",v)]
 f771:FnIs K 771 (aC aR 29)
 b771:∀v,Binds K 771 [v] [] [("script",v)]
 f778:FnIs K 778 (aC aR 30)
 b778:∀v,Binds K 778 [v] [] [("pattern",v)]
 f785:FnIs K 785 (aC aR 31)
 b785:∀v,Binds K 785 [v] [] [("line",v)]
 f792:FnIs K 792 (aC aR 32)
 b792:∀v,Binds K 792 [v] [] [("pattern",v)]
 f799:FnIs K 799 (aC aR 33)
 b799:∀v,Binds K 799 [v] [] [("meant",v)]
 f804:FnIs K 804 (aC aR 34)
 b804:∀v,Binds K 804 [v] [] [("script",v)]
 f722:FnIs K 722 (aC shB 9)
 b722:∀v,Binds K 722 [v] [] [("self",v)]
 f729:FnIs K 729 (aC shB 10)
 b729:∀v,Binds K 729 [v] [] [("self",v)]
 f656:FnIs K 656 (aC shB 0)
 b656:∀a v u,Binds K 656 [a,v] [("posix",u)] [("self",a),("instream",v),("infile",.none),("posix",u),("punctuation_chars",.bool false)]
 b656':∀a v u w,Binds K 656 [a,v] [("posix",u),("punctuation_chars",w)] [("self",a),("instream",v),("infile",.none),("posix",u),("punctuation_chars",w)]
 f367:FnIs K 367 (aC ioB 1)
 b367:∃t,∀a v,Binds K 367 [a,v] [] [("self",a),("initial_value",v),("newline",.str "\n" t)]
 f90:FnIs K 90 (aC (aO (aC aR 8)) 1)
theorem aA0:entryFor table "re.Pattern.search"=some Builtin.«re.Pattern.search»:=entryFor_of_tree (by kernel_rfl)
theorem zM:plainId "re.Pattern.search"=true:=by kernel_rfl
section
variable {K:Params→Frag} {n:Nat} {sc:Scope} {x:Cx} {ρ:List OA} {st st₁ st₂:AS} {l:List Nat} {t:Tok}
theorem aIs {M:Model} {A:Around} {E:Value→Shared→Prop} {s:Shared} {p u:Value} {pos lim:Nat} {m:Sre.M} {Q:Value→Shared→Prop}
  (h:∀a h',(∀b o,s.heap.get? b=some o→h'.get? b=some o)→Q (.ref a) {s with heap:=h'}):wpAny M A (reNewMatch p u 0 pos lim m) Q E s:=by
 unfold reNewMatch
 show wpAny M A (do
  (if false=true then reWrongSpan else pure PUnit.unit)
  newFields "re.Match" [u,p,rawInt pos,rawInt lim,rawInt m.lastindex,←newTuple (rawInt m.start::rawInt m.handed::[])]) Q E s
 refine wpAny_bind (wpAny_pure (wpAny_bind (wpAny_newTuple ?_ (by rw [sizeLine_eq];show 2≤_;decide))))
 refine wpAny_newObj_type ?_ (by show 6≤_;rw [sizeLine_eq];decide)
 exact h _ _ fun b o e=>Heap.get?_push_of_some _ (Heap.get?_push_of_some _ e)
theorem aDj (hP:Prog2 K) (hx:x.Run K n) (hne:l≠ []) (hl:l.length<1000000):Tri x ρ st (call (.ref 745) [.str (mkS l) t] []) st fun zz r=>(r== .none)=l.all bX:=by
 intro s Q E R kk
 have X:=hx.glo.X.keeps R.base
 refine wpAny_call (codeAny_of_tree ?_)
 show wpAny _ x.A.in1 (callAny (.ref 745) ⟨[.str (mkS l) t],[]⟩) _ _ s
 simp only [callAny]
 refine wpAny_bind (wpAny_load (X _ _ (hP.fu _)) ?_)
 refine aF fun gq hgq=> ?_
 refine yS ((hP.ps x.w.params).at_) fun dd vs sl ca h1 zz=> ?_
 subst hgq
 show wpAny _ _ (checkBoundCall "re.Pattern.search" ⟨[.ref 49,.str (mkS l) t],[]⟩>>=fun zz=>again (.builtin "re.Pattern.search" ⟨[.ref 49,.str (mkS l) t],[]⟩)) _ _ _
 refine wpAny_bind (aA8 (X _ _ h1) rfl rfl (wpAny_pure ⟨plainId_quiet zM _,cD (by decide) aA0 ?_⟩))
 unfold Builtin.«re.Pattern.search»
 refine wpAny_bind (xL X (hP.ps _) hl ?_)
 show wpAny _ _ (reAnswer _ (Sre.forSearch shCode l.toArray 0 0 l.length false)) _ _ _
 unfold reAnswer
 refine cK (aKv hne) fun k1 k2=> ?_
 cases ha:l.all bX with
 |true=>
  refine wpAny_bind (oU (k1 ha) (by decide) (wpAny_pure ?_))
  exact kk _ s ρ R (.refl ..) (by rw [ha];rfl)
 |false=>
  refine wpAny_bind (mN (k2 ha) (by decide) fun m' zz=> ?_)
  refine wpAny_bind (aIs fun a h' hk=>wpAny_pure ?_)
  exact kk _ _ ρ (R.grow hk) (.grow hk) (by rw [ha];rfl)
theorem aHl {y:Str} {p:Pos} {e:Expr} {pos:Pos} {u:Value} {a:AV} {q:List OA→Value→Prop} (ht:TabOk K mZ) (hx:x.Ok K n sc) (hn:aBx mZ sc y=some u) (he:isStarred e=false) (h:DoesE K n sc e st a st₁)
  (k:∀ρ v,den ρ a v→Tri x ρ st₁ (call u [v] []) st₂ q):Tri x ρ st (eval (.Call (.Name y p) [e] [] pos) x.env) st₂ q:=by
 refine cK (zP hn) fun q1 q2=> ?_
 rw [arm_eval_Call_Name']
 have hn:=kQ (x:=x) (ρ:=ρ) (y:=y) (pos:=p) ht hx
 rw [q1]at hn
 refine(hn st [] (.val u) st [] [] rfl (fun zz h=>nomatch h)).bind fun ρ₁ v ex d=> ?_
 have:v=u:=d
 subst this
 intro s Q E R kk
 have pl:∀ps:Pos,backTo ps (starEach [e] x.env)=[(false,eval e x.env)]:=fun ps=>by rw [bU he];rfl
 rw [pl]
 refine callWith_of (P:=fun h=>(K x.w.params).In h) rfl (fun h X=>dB (ht.glb _ _ q2 x.w.params).2 X) ?_
 unfold evalArgs
 refine wpAny_bind ?_
 show wpAny _ _ (spliced [(false,eval e x.env)]) _ _ _
 refine spliced_cons (h x hx ρ₁ s _ _ R fun w s₁ ρ₂ R₂ N₂ dw=>wpAny_pure ?_)
 refine wpAny_bind (wpAny_pure (wpAny_holding (wpAny_pure ⟨hx.glo.X.keeps R₂.base, ?_⟩)))
 exact k ρ₂ w dw s₁ _ _ R₂ fun r s₂ ρ₃ R₃ N₃ qr=>kk r s₂ ρ₃ R₃ (N₂.trans N₃) qr
noncomputable def aDc (K:Params→Frag) (n:Nat) (sc:Scope) (e:Expr) (st:AS) (b:Bool) (st':AS):Prop:=∀x:Cx,x.Ok K n sc→∀ρ,Tri x ρ st (eval e x.env) st' fun zz r=>(r== .none)=b
theorem jQ {l:Expr} {b:Bool} {k:Nat} {p pos:Pos} (h:aDc K n sc l st b st₁):cW K n sc (.Compare l [.Is] [.Constant .none k p] pos) st b st₁:=by
 intro x hx ρ
 rw [arm_isTrue_Compare]
 refine(h x hx ρ).bind fun ρ₁ v ex hv=> ?_
 show Tri x ρ₁ st₁ (do let rv←holding [v] (eval (.Constant .none k p) x.env);standAt pos;let c←operate [v,rv] (compareOp .Is v rv);holding [c] (truthy c)) _ _
 refine Tri.bind (p:=fun zz r=>r= .none) (Tri.holding (iT (a:=.none) rfl)) fun ρ₂ u ex2 hu=> ?_
 subst hu
 refine Tri.standAt (Tri.bind (Tri.operate qL) fun ρ₃ c ex3 hc=>Tri.holding ?_)
 subst hc
 exact bA fun s Q E k=>wpAny_truthy_bool (k _ s.toks hv)
theorem mQ {c:Expr} {body orelse:List Stmt} {f:AFlow} {pos:Pos} (h:cW K n sc c st true st₁) (k:DoesB K n sc body st₁ f st₂):DoesS K n sc (.If c body orelse pos) st f st₂:=by
 intro x hx ρ
 rw [arm_exec_If]
 refine Tri.standAt ((h x hx ρ).bind fun ρ₁ b ex e=> ?_)
 subst e
 exact k x hx ρ₁
theorem eP {c:Expr} {body orelse:List Stmt} {f:AFlow} {pos:Pos} (h:cW K n sc c st false st₁) (k:DoesB K n sc orelse st₁ f st₂):DoesS K n sc (.If c body orelse pos) st f st₂:=by
 intro x hx ρ
 rw [arm_exec_If]
 refine Tri.standAt ((h x hx ρ).bind fun ρ₁ b ex e=> ?_)
 subst e
 exact k x hx ρ₁
end
theorem DoesCall.as {K:Params→Frag} {n:Nat} {f:Value} {args:List AV} {kws:List (Str×AV)} {objs objs':List AO} {v v':AV} (h:DoesCall K n f args kws objs v objs') (k:∀ρ u,den ρ v u→den ρ v' u):DoesCall K n f args kws objs v' objs':=
 fun x hx loc ρ vs kvs ha hk=>(h x hx loc ρ vs kvs ha hk).imp fun ρ' u zz d=>k ρ' u d
noncomputable def aM (l:List Nat):List Nat:=if l=[]then [39,39]else if l.all bX=true then l else 39::(aQ 39 [39,34,39,34,39] l++[39])
noncomputable def scQ:Scope:=bC (aC aR 24)
noncomputable def aOy:List Stmt:=aO (aC aR 24)
section
variable {K:Params→Frag} (hP:Prog2 K) {n:Nat} {objs:List AO} {l:List Nat} {a:AV}
include hP
noncomputable def qIf:Stmt:=aC aOy 1
noncomputable def aGf:Expr:=kE 0 (stE qIf)
theorem nD {objs:List AO} (hne:l≠ []) (hl:l.length<1000000):aDc K n scQ aGf ⟨[("s",S l)],objs⟩ (l.all bX) ⟨[("s",S l)],objs⟩:=by
 have e:∃p1 p2 p3,aGf= .Call (.Name "_find_unsafe" p1) [.Name "s" p2] [] p3:=⟨_,_,_,rfl⟩
 refine aH9 e fun p1 p2 p3 e=> ?_
 rw [e]
 intro x hx ρ
 refine aHl (u:=.ref 745) (st₁:=⟨[("s",S l)],objs⟩) hP.tab hx (by kernel_rfl) rfl (aI (m:=3) (td:=[]) (obs:=[]) (a:=S l) hP.tab (by kernel_rfl) all_nil) fun ρ v d=> ?_
 refine aF fun gq hgq=> ?_
 obtain⟨⟨t,rfl⟩,_⟩:=d
 subst hgq
 exact aDj hP hx.toRun hne hl
noncomputable def aPr:Expr:=kE 1 (kE 0 (stE (aC aOy 2)))
theorem aIh {objs:List AO} (hsz:8*l.length<900000):DoesE K n scQ aPr ⟨[("s",S l)],objs⟩ (S (aQ 39 [39,34,39,34,39] l)) ⟨[("s",S l)],objs⟩:=by
 have e:∃p1 p2 p3 p4 p5 k1 k2,aPr= .Call (.Attribute (.Name "s" p1) "replace" p2) [.Constant (.str "'") k1 p3,.Constant (.str (mkS [39,34,39,34,39])) k2 p4] [] p5∧Nat.beq p2.endLine p5.line=true:=⟨_,_,_,_,_,_,_,rfl,by kernel_rfl⟩
 refine aF fun gq hgq=> ?_
 refine aQn e fun p1 p2 p3 p4 p5 k1 k2 e hb=> ?_
 subst hgq
 rw [e]
 exact eA (c:=39) (l:=l) (a:=S l) hP.tab rfl rfl rfl hb (aI (m:=3) (td:=[]) (obs:=[]) hP.tab (by kernel_rfl) all_nil) rfl (by decide) (by simp;omega)
theorem nR (hsz:8*l.length<900000):DoesCall K (n+1) (.ref 752) [S l] [] objs (S (aM l)) objs:=by
 have hl:l.length<1000000:=by omega
 unfold aM
 by_cases h0:l=[]
 ·subst h0
  rw [if_pos rfl]
  refine DoesCall.as (v:=.str "''") (bZ hP.f752.fn (hb1 hP.b752) (by kernel_rfl) (bI (by kernel_rfl)) (fl:=.ret (.str "''")) (loc':=[("s",S [])])
   (aB (m:=20) (k:=20) (td:=[.b false]) (obs:=[(match(mkS []).cps.toList with|[]=>false|_=>true)=false]) hP.tab (by kernel_rfl) (aA rfl all_nil)) rfl) fun ρ u d=> ?_
  refine aF fun gq hgq=> ?_
  obtain⟨⟨t,rfl⟩,_⟩:=d
  subst hgq
  exact⟨⟨t,rfl⟩,by rw [aK,sizeLine_eq];decide,(fun h=>by cases h),fun h=>by cases h⟩
 ·rw [if_neg h0]
  have ht:(match(mkS l).cps.toList with|[]=>false|_=>true)=true:=by
   cases l with
   |nil=>exact absurd rfl h0
   |cons a l=>rfl
  cases ha:l.all bX with
  |true=>
   rw [if_pos rfl]
   have hT:=jQ (k:=0) (p:=⟨0,0,0,0⟩) (pos:=⟨0,0,0,0⟩) (nD hP (n:=n) (objs:=objs) h0 hl)
   have hS:DoesS K n scQ qIf ⟨[("s",S l)],objs⟩ (.ret (S l)) ⟨[("s",S l)],objs⟩:=by
    have e:∃k p pos body p2,qIf= .If (.Compare aGf [.Is] [.Constant .none k p] pos) body [] p2∧body=aO qIf:=⟨_,_,_,_,_,rfl,by kernel_rfl⟩
    refine aF fun gq hgq=> ?_
    refine aJu e fun k p pos body p2 e eb=> ?_
    subst hgq
    rw [e]
    refine mQ (jQ (by have:=nD hP (n:=n) (objs:=objs) h0 hl;rw [ha]at this;exact this)) ?_
    rw [eb]
    exact aB (m:=20) (k:=20) (td:=[]) (obs:=[]) hP.tab (by kernel_rfl) all_nil
   exact bZ hP.f752.fn (hb1 hP.b752) (by kernel_rfl) (bI (by kernel_rfl)) (fl:=.ret (S l)) (loc':=[("s",S l)])
    (aB (m:=20) (k:=20) (td:=[.b true,.s (.ret (S l)) ⟨[("s",S l)],objs⟩]) (obs:=[(match(mkS l).cps.toList with|[]=>false|_=>true)=true,DoesS K n scQ qIf ⟨[("s",S l)],objs⟩ (.ret (S l)) ⟨[("s",S l)],objs⟩]) hP.tab (by kernel_rfl) (aA ht (aA hS all_nil))) rfl
  |false=>
   rw [if_neg (by decide)]
   have hS:DoesS K n scQ qIf ⟨[("s",S l)],objs⟩ .next ⟨[("s",S l)],objs⟩:=by
    have e:∃k p pos body p2,qIf= .If (.Compare aGf [.Is] [.Constant .none k p] pos) body [] p2:=⟨_,_,_,_,_,rfl⟩
    refine aF fun gq hgq=> ?_
    refine vV e fun k p pos body p2 e=> ?_
    subst hgq
    rw [e]
    refine eP (jQ (by have:=nD hP (n:=n) (objs:=objs) h0 hl;rw [ha]at this;exact this)) ?_
    exact cM
   have hr:=cF 39 [39,34,39,34,39] l
   have hR:=aIh hP (n:=n) (objs:=objs) hsz
   refine DoesCall.as (v:=.sym (some true) (("'"++mkS (aQ 39 [39,34,39,34,39] l))++"'")) (bZ hP.f752.fn (hb1 hP.b752) (by kernel_rfl) (bI (by kernel_rfl)) (fl:=.ret (.sym (some true) (("'"++mkS (aQ 39 [39,34,39,34,39] l))++"'"))) (loc':=[("s",S l)])
    (aB (m:=20) (k:=20) (td:=[.b true,.s .next ⟨[("s",S l)],objs⟩,.e (S (aQ 39 [39,34,39,34,39] l)) ⟨[("s",S l)],objs⟩])
     (obs:=[(match(mkS l).cps.toList with|[]=>false|_=>true)=true,DoesS K n scQ qIf ⟨[("s",S l)],objs⟩ .next ⟨[("s",S l)],objs⟩,
      DoesE K n scQ aPr ⟨[("s",S l)],objs⟩ (S (aQ 39 [39,34,39,34,39] l)) ⟨[("s",S l)],objs⟩,
      Str.length "'"+(mkS (aQ 39 [39,34,39,34,39] l)).length≤sizeLine,Str.length ("'"++mkS (aQ 39 [39,34,39,34,39] l))+Str.length "'"≤sizeLine]) hP.tab (by kernel_rfl) (aA ht (aA hS (aA hR (aA ?_ (aA ?_ all_nil)))))) rfl) fun ρ u d=> ?_
   ·rw [aK,sizeLine_eq];show 1+_≤_;simp at hr;omega
   ·rw [Str.length_append,aK,sizeLine_eq];show(1+_)+1≤_;simp at hr;omega
   ·obtain⟨⟨t,rfl⟩,hz,_⟩:=d
    have e:(("'"++mkS (aQ 39 [39,34,39,34,39] l))++"'":Str)=mkS (39::(aQ 39 [39,34,39,34,39] l++[39])):=by
     refine gG ?_
     show((_++_)++_:Array Nat).toList=_
     simp [mkS]
     rfl
    rw [e]at hz⊢
    exact⟨⟨t,rfl⟩,hz,(fun h=>by cases h),fun h=>by cases h⟩
end
end Mine
end
section
namespace Mine
noncomputable def aF0:Code→Bool
 | .builtin id _=>id=="callable_iterator.__next__"
 |_=>false
noncomputable def lK (Γ:Ctx):Prop:=(Γ.below.any fun x=>aF0 x.1)=false
noncomputable def NIn (Γ:Ctx):Prop:=aF0 Γ.code=false∧lK Γ
noncomputable def wpQ {α:Type} (N:Ctx→Prop) (M:Model) (A:Around) (t:Sem α) (Q:α→Shared→Prop) (E:Value→Shared→Prop) (s:Shared):Prop:=
 ∀Γ p,Γ.In A→N Γ→Sem.wp M Γ t (fun a zz s'=>Q a s') (fun e zz s'=>E e s') p s
noncomputable abbrev wpP {α:Type} (M:Model) (A:Around) (t:Sem α) (Q:α→Shared→Prop) (E:Value→Shared→Prop) (s:Shared):Prop:=wpQ NIn M A t Q E s
noncomputable abbrev F0:Value→Shared→Prop:=fun zz zz=>False
noncomputable def dF (M:Model) (A:Around) (c:Code) (R:Result→Shared→Prop) (s:Shared):Prop:=∀Γ p,Γ.code=c→Γ.Below A→lK Γ→wpCode M Γ R p s
section
variable {α β:Type} {N:Ctx→Prop} {M:Model} {A:Around} {E:Value→Shared→Prop} {s:Shared}
theorem fU {t:Sem α} {Q:α→Shared→Prop} (h:wpAny M A t Q E s):wpQ N M A t Q E s:=fun Γ p hΓ zz=>h Γ p hΓ
theorem cQ {t:Sem α} {Q Q':α→Shared→Prop} {E':Value→Shared→Prop} (h:wpQ N M A t Q E s) (hQ:∀a s,Q a s→Q' a s) (hE:∀e s,E e s→E' e s):wpQ N M A t Q' E' s:=
 fun Γ p hΓ hN=>Sem.wp_mono M Γ t (fun a zz s=>hQ a s) (fun e zz s=>hE e s) p s (h Γ p hΓ hN)
theorem aZ {a:α} {Q:α→Shared→Prop} (h:Q a s):wpQ N M A (pure a) Q E s:=fun zz zz zz zz=>h
theorem aY {m:Sem α} {f:α→Sem β} {Q:β→Shared→Prop} (h:wpQ N M A m (fun a s'=>wpQ N M A (f a) Q E s') E s):wpQ N M A (m>>=f) Q E s:=fun Γ p hΓ hN=>by
 rw [Sem.wp_bind']
 exact Sem.wp_mono M Γ m (fun a p' s' h'=>h' Γ p' hΓ hN) (fun zz zz zz h'=>h') p s (h Γ p hΓ hN)
theorem aT {m:Sem α} {f:α→Sem β} {Q:β→Shared→Prop} (h:wpAny M A m (fun a s'=>wpQ N M A (f a) Q E s') E s):wpQ N M A (m>>=f) Q E s:=aY (fU h)
theorem eE {m:Sem α} {k:Value→Sem Unit} {Q:α→Shared→Prop} (h:wpQ N M A m Q F0 s):wpQ N M A (m.onRaise k) Q E s:=fun Γ p hΓ hN=>by
 rw [Sem.wp_onRaise]
 exact Sem.wp_mono M Γ m (fun zz zz zz h'=>h') (fun e p' s' h'=>h'.elim) p s (h Γ p hΓ hN)
theorem qJ {m:Sem α} {Q:Except Value α→Shared→Prop} (h:wpQ N M A m (fun a=>Q (.ok a)) (fun e=>Q (.error e)) s):wpQ N M A m.attempt Q E s:=fun Γ p hΓ hN=>by
 rw [Sem.wp_attempt];exact h Γ p hΓ hN
theorem dL {vs:List Value} {m:Sem α} {Q:α→Shared→Prop} (h:wpQ N M A m Q E s):wpQ N M A (holding vs m) Q E s:=fun Γ p hΓ hN=>by
 rw [Sem.wp_holding];exact h Γ p hΓ hN
theorem NIn.enter {Γ:Ctx} (h:NIn Γ) (c:Code) (hd:Option Value) (p:Pos):lK (Γ.enter c hd p):=by
 show(((Γ.code,p)::Γ.below).any fun x=>aF0 x.1)=false
 rw [List.any_cons,h.1]
 exact h.2
theorem aFt {c:Code} {h:Option Value} {Q:Flow→Shared→Prop} (hc:dF M (A.mark h) c (fun r s'=>match r with| .ok f=>Q f s'| .error e=>E e s') s) (hnb:h≠some byPass:=by intro x;cases x):wpP M A (run c h) Q E s:=
 fun Γ p hΓ hN=>by rw [Sem.wp_run];exact hc _ p rfl (hΓ.enter c h p hnb) (hN.enter c h p)
theorem yU {c:Code} {Q:Value→Shared→Prop} (hc:dF M A c (fun r s'=>match r with| .ok (.ret v)=>Q v s'| .ok _=>False| .error e=>E e s') s):wpP M A (runValue c) Q E s:=
 fun Γ p hΓ hN=>by rw [Sem.wp_runValue];exact hc _ p rfl (hΓ.enter c none p (by intro x;cases x)) (hN.enter c none p)
theorem sL {f:Value} {pos:List Value} {kw:List (Str×Value)} {Q:Value→Shared→Prop} (hc:dF M A (.call f ⟨pos,kw⟩) (fun r s'=>match r with| .ok (.ret v)=>Q v s'| .ok _=>False| .error e=>E e s') s):wpP M A (call f pos kw) Q E s:=yU hc
theorem aLw {c:Code} {R:Result→Shared→Prop} (h:codeAny M A c R s):dF M A c R s:=fun Γ p hc hΓ zz=>h Γ p hc hΓ
theorem aFk {c:Code} {R R':Result→Shared→Prop} (h:dF M A c R s) (hR:∀r s,R r s→R' r s):dF M A c R' s:=fun Γ p hc hΓ hN=>wpCode_mono hR (h Γ p hc hΓ hN)
theorem dI {c:Code} {R:Result→Shared→Prop} (hn:aF0 c=false) (h:wpP M (A.under c) (M.den c) (fun fin s'=>match fin with| .done f=>R (.ok f) s'| .again c'=>c'.quiet=true∧dF M A c' R s') (fun e s'=>R (.error e) s') s):dF M A c R s:=fun Γ p hc hΓ hN=>by
 rw [wpCode_iff_wp,hc]
 refine Sem.wp_mono M Γ _ (fun fin p' s' h'=> ?_) (fun zz zz zz h'=>h') p s (h Γ p (hc▸hΓ.in) ⟨by rw [hc];exact hn,hN⟩)
 cases fin with
 |done f=>exact h'
 |again c'=>exact⟨h'.1,h'.2 (Γ.goto c') p' rfl (hΓ.goto c') hN⟩
theorem wL {c:Code} {R:Result→Shared→Prop} (h:wpQ lK M (A.under c) (M.den c) (fun fin s'=>match fin with| .done f=>R (.ok f) s'| .again _=>False) (fun e s'=>R (.error e) s') s):dF M A c R s:=fun Γ p hc hΓ hN=>by
 rw [wpCode_iff_wp,hc]
 refine Sem.wp_mono M Γ _ (fun fin p' s' h'=> ?_) (fun zz zz zz h'=>h') p s (h Γ p (hc▸hΓ.in) hN)
 cases fin with
 |done f=>exact h'
 |again c'=>exact h'.elim
theorem aHa {Q:Bool→Shared→Prop} {busy:Code→Bool} (hb:∀c,busy c=true→aF0 c=true) (h:Q false s):wpQ lK M A (do return ((←stack).drop 1).any fun(c,_)=>busy c) Q E s:=fun Γ p hΓ hN=>by
 show Q (Γ.below.any fun x=>busy x.1) s
 have:(Γ.below.any fun x=>busy x.1)=false:=by
  rw [Bool.eq_false_iff]
  intro q
  refine aH (List.any_eq_true.mp q) fun x hx hy=> ?_
  have hN:(Γ.below.any fun x=>aF0 x.1)=false:=hN
  rw [List.any_eq_false]at hN
  exact hN x hx (hb _ hy)
 rw [this]
 exact h
end
section
variable {prog:Program} {w:World} {A:Around} {R:Result→Shared→Prop} {s:Shared}
theorem aDe {env:Env} {c:Code} {h:Option Value} {E:Value→Shared→Prop} {Q:Flow→Shared→Prop} {M:Model} (hc:dF M (A.mark h) c (fun r s'=>match r with| .ok f=>Q f s'| .error e=>False) s) (hnb:h≠some byPass:=by intro x;cases x):wpP M A (runOwn c env h) Q E s:=by
 unfold runOwn
 exact eE (aFt hc hnb)
theorem aD1 {body:List Stmt} {env:Env} (h:wpP (aP prog w) (A.deeper env) (execs body env) (fun f s'=>R (.ok (.ret (match f with| .ret v=>v|_=>.none))) s') F0 s):dF (aP prog w) A (.func body env) R s:=by
 refine dI rfl ?_
 show wpP _ (A.deeper env) (do point;match←(execs body env).onRaise (leaving env)with| .ret v=>ret v|_=>ret .none) _ _ s
 refine aT (wpAny_point (aY (eE (cQ h (fun f s' h'=> ?_) fun zz zz h'=>h'))))
 cases f<;>exact aZ h'
theorem rM {f:Addr} {args:Args} {o:Obj} {fd:FuncData} {body:List Stmt} {binds:List (Str×Value)}
  (hroom:A.depth<recursionLimit) (ho:s.heap.get? f=some o) (hd:o.data= .func fd) (hlim:s.heap.NoLimit) (hcd:s.heap.CodeRec fd.code fd.qualname) (hbody:fd.body= .stmts body)
  (hbind:BindsTo s fd args binds) (hco:fd.scope.isCoroutine=false) (hgen:fd.scope.isGenerator=false) (hk:fd.scope.kind= .function) (hcell:∀x∈fd.scope.names,x.2≠ .cell)
  (hloc:∀x∈binds,fd.scope.names.lookup x.1=some .local)
  (h:∀h',h'.Ns s.heap.objs.size (fun y=>binds.reverse.lookup y)→(∀b o,s.heap.get? b=some o→h'.get? b=some o)→h'.objs.size=s.heap.objs.size+1→
   wpP (aP prog w) (A.deeper (newEnv fd.scope s.heap.objs.size fd.globals fd.closure (fd.qualname++".<locals>.") (some f) fd.code none fd.builtins))
    (execs body (newEnv fd.scope s.heap.objs.size fd.globals fd.closure (fd.qualname++".<locals>.") (some f) fd.code none fd.builtins))
    (fun fl s'=>R (.ok (.ret (match fl with| .ret v=>v|_=>.none))) s') F0
    {s with heap:=h',toks:=s.toks+binds.length}):dF (aP prog w) A (.call (.ref f) args) R s:=by
 refine dI rfl (fU (yL hroom ho hd hlim hcd hbody (fun A E Q q=>hbind _ _ _ _ q) hco hgen hk hcell hloc fun h' a b c=> ?_))
 exact⟨rfl,aD1 (h h' a b c)⟩
theorem vE {target:Expr} {it:Value} {body orelse:List Stmt} {env:Env}
  (h:wpP (aP prog w) A (pyNext it) (fun r s₁=>match r with
    |none=>dF (aP prog w) A (.block orelse env) R s₁
    |some v=>wpP (aP prog w) A (letOwnedTupleGo target it v) (fun zz s₂=>wpP (aP prog w) A (assign target env v) (fun zz s₃=>wpP (aP prog w) A (execs body env) (fun f s₄=>match f with
      | .next| .cont=>dF (aP prog w) A (.forLoop target it body orelse env) R s₄
      | .brk=>R (.ok .next) s₄
      | .ret v=>R (.ok (.ret v)) s₄) F0 s₃) F0 s₂) F0 s₁)
    F0 s):dF (aP prog w) A (.forLoop target it body orelse env) R s:=by
 refine dI rfl ?_
 show wpP _ A ((forTurn target it body orelse env).onRaise (fun x=>do noteFrame x env;theTreesLotGoes x)) _ _ s
 refine eE ?_
 simp only [forTurn]
 refine aT (wpAny_standAt (aY (eE (cQ h (fun r s₁ h₁=> ?_) fun zz zz h'=>h'))))
 cases r with
 |none=>exact aZ ⟨rfl,h₁⟩
 |some v=>
  dsimp only at h₁⊢
  refine aY (cQ h₁ (fun zz s₂ h₂=>aY (cQ h₂ (fun zz s₃ h₃=>aY (cQ h₃ (fun f s₄ h₄=> ?_) fun zz zz h'=>h')) fun zz zz h'=>h')) fun zz zz h'=>h')
  cases f with
  |next=>exact aZ ⟨rfl,h₄⟩
  |cont=>exact aZ ⟨rfl,h₄⟩
  |brk=>exact aZ h₄
  |ret v=>exact aZ h₄
variable {elt:Expr} {gens:List Comprehension} {cs:Scope} {cpos:Pos} {depth:Nat} {it acc:Value} {env:Env}
noncomputable def aQl (M:Model) (A:Around) (R:Result→Shared→Prop) (fin:Fin) (s':Shared):Prop:=match fin with
 | .done f=>R (.ok f) s'
 | .again c'=>c'.quiet=true∧dF M A c' R s'
theorem kG {y:Str} {q p:Pos} {rest:pO} (heq:eD (.ListComp elt gens cs cpos) depth y q p rest)
  (h:wpP (aP prog w) A (pyNext it) (fun r s₁=>match r with
   |none=>R (.ok .next) s₁
   |some v=>wpP (aP prog w) A (bindName env y v) (fun zz s₂=>wpP (aP prog w) A (rest acc env (again (.compLoop (.ListComp elt gens cs cpos) depth it acc env))) (aQl (aP prog w) A R) F0 s₂)
     F0 s₁) F0 s):dF (aP prog w) A (.compLoop (.ListComp elt gens cs cpos) depth it acc env) R s:=by
 refine dI rfl ?_
 show wpP _ A ((compTurn (.ListComp elt gens cs cpos) depth it acc env).onRaise (fun x=>do noteFrame x env;theTreesLotGoes x)) _ _ s
 refine eE ?_
 rw [heq]
 refine aT (wpAny_standAt (aY (cQ h (fun r s₁ h₁=> ?_) fun zz zz z=>z)))
 cases r with
 |none=>exact aZ h₁
 |some v=>
  dsimp only at h₁⊢
  show wpP _ _ (letOwnedTupleGo (.Name y q) it v>>=fun zz=>_) _ _ _
  rw [show letOwnedTupleGo (.Name y q) it v=pure ()from rfl]
  refine aY (aZ ?_)
  refine aY (m:=assign (.Name y q) env v) ?_
  rw [arm_assign_Name]
  refine aT (wpAny_standAt (cQ h₁ (fun zz s₂ h₂=> ?_) fun zz zz z=>z))
  exact cQ h₂ (fun fin s₃ h₃=>by cases fin<;>exact h₃) fun zz zz z=>z
theorem qG (hc:gens[depth]?.elim false (·.is_async !=0)=false)
  (h0:dF (aP prog w) A (.compLoop (.ListComp elt gens cs cpos) depth it acc env) R s)
  (h:wpAny (aP prog w) A (pyIter it) (fun it' s'=>dF (aP prog w) A (.compLoop (.ListComp elt gens cs cpos) depth it' acc env) R s') F0 s):
  dF (aP prog w) A (.compStart (.ListComp elt gens cs cpos) depth it acc env) R s:=by
 refine dI rfl ?_
 show wpP _ _ ((compStart (.ListComp elt gens cs cpos) depth it acc env).onRaise (fun x=>do noteFrame x env;standAt theWindowsPlace)) _ _ s
 refine eE ?_
 unfold compStart
 have hc':((clausesOf (.ListComp elt gens cs cpos))[depth]?).elim false (·.is_async !=0)=false:=hc
 rw [hc']
 show wpP _ _ (ask>>=_) _ _ s
 refine aT (wpAny_askSetting ?_)
 split
 ·first
   |exact aY (aZ (aZ (And.intro rfl h0)))
   |exact aZ (And.intro rfl h0)
 ·refine aT (wpAny_rule ?_)
  cases q:(clausesOf (.ListComp elt gens cs cpos))[depth]? with
  |none=>exact aT (wpAny_mono h (fun it' s' h'=>aZ (And.intro rfl h')) fun zz zz x=>x)
  |some g=>exact aT (wpAny_standAt (aT (wpAny_mono h (fun it' s' h'=>aZ (And.intro rfl h')) fun zz zz x=>x)))
end
end Mine
end
section
namespace Mine
open PySem.Builtin PySem.Builtin.Re PySem.W
theorem slot_md_get:Slot "method_descriptor" "__get__" "method_descriptor.__get__":=
 .of (owner:="method_descriptor") (n:="__get__") (by rw [typeLookup_type,builtinLookup_eq_fast];kernel_rfl) (by decide+kernel) (by decide+kernel) (by decide+kernel)
  (by first|exact .inl (by decide+kernel)|exact .inr (by decide+kernel)) (by rw [isSubtype_type];kernel_rfl)
theorem aA1:entryFor table "method_descriptor.__get__"=some Builtin.«method_descriptor.__get__»:=entryFor_of_tree (by kernel_rfl)
theorem aDb (a b c:Value):argsOk "method_descriptor.__get__" ⟨[a,b,c],[]⟩:=by unfold argsOk;kernel_rfl
theorem xA:typeOf (.builtin "_sre.SRE_Scanner.search")=pure (.type "method_descriptor"):=by show builtinType _=_;rw [builtinType_eq_fast];kernel_rfl
theorem aNo:typeLookup (.type "_sre.SRE_Scanner") "search"=pure (some (.builtin "_sre.SRE_Scanner.search")):=by rw [typeLookup_type,builtinLookup_eq_fast];kernel_rfl
theorem aIx:typeLookup (.type "method_descriptor") "__set__"=pure none:=by rw [typeLookup_type,builtinLookup_eq_fast];kernel_rfl
theorem zR:typeLookup (.type "method_descriptor") "__delete__"=pure none:=by rw [typeLookup_type,builtinLookup_eq_fast];kernel_rfl
theorem slot_scan_ga:Slot "_sre.SRE_Scanner" "__getattribute__" "object.__getattribute__":=
 .of (owner:="object") (n:="__getattribute__") (by rw [typeLookup_type,builtinLookup_eq_fast];kernel_rfl) (by decide+kernel) (by decide+kernel) (by decide+kernel)
  (by first|exact .inl (by decide+kernel)|exact .inr (by decide+kernel)) (by rw [isSubtype_type];kernel_rfl)
theorem aKh:isSubtype (.type "_sre.SRE_Scanner") (.type "_sre.SRE_Scanner")=pure true:=by rw [isSubtype_type];kernel_rfl
theorem aIb:Manifest.toldItsClass.contains "_sre.SRE_Scanner.search"=true:=by kernel_rfl
noncomputable def bS (a:Addr):Obj:={cls:=.type "builtin_function_or_method",data:=.fields #[.builtin "_sre.SRE_Scanner.search",.ref a]}
section
variable {prog:Program} {w:World} {A:Around} {E:Value→Shared→Prop} {h:Heap} {g:Array GenState} {d:Drawn} {t:Nat} {os:OsState} {a:Addr} {o:Obj} {vs:Array Value}
theorem aC2 {Q:Fin→Shared→Prop} (ho:h.get? a=some o) (hc:o.cls= .type "_sre.SRE_Scanner") (hq:Q (.done (.ret (.ref h.objs.size))) ⟨h.push (bS a),g,d,t,os⟩):
  wpAny (model prog w) A (Builtin.«method_descriptor.__get__» ⟨[.builtin "_sre.SRE_Scanner.search",.ref a,.type "_sre.SRE_Scanner"],[]⟩) Q E ⟨h,g,d,t,os⟩:=by
 have hT:(⟨h,g,d,t,os⟩:Shared).TypeIs (.ref a) "_sre.SRE_Scanner":=⟨o,ho,hc⟩
 unfold Builtin.«method_descriptor.__get__»
 refine wpAny_bind (wpAny_of_eq (a:=(.builtin "_sre.SRE_Scanner.search",some (.ref a),some (.type "_sre.SRE_Scanner"))) (by first|rfl|kernel_rfl) ?_)
 dsimp only
 rw [aIb]
 simp only [if_true]
 have chk:∀{Q':Unit→Shared→Prop},Q' () ⟨h,g,d,t,os⟩→wpAny (model prog w) A (do
  if !(←isInstance (.ref a) (.type "_sre.SRE_Scanner"))then
   rule "descr.get.wrong-instance"
   raiseError "TypeError" s!"descriptor '{("search" : Str).toString}' for '{← typeName (.type "_sre.SRE_Scanner")}' objects doesn't apply to a '{← typeNameOf (.ref a)}' object") Q' E ⟨h,g,d,t,os⟩:=fun q=>
  wpAny_bind (wpAny_isInstance hT aKh (wpAny_pure q))
 refine wpAny_bind (chk ?_)
 refine wpAny_bind (wpAny_of_eq (a:=true) (by first|rfl|kernel_rfl) ?_)
 refine KFB.if_not rfl ?_
 refine wpAny_bind (chk ?_)
 exact wpAny_bind (wpAny_newObj_type (wpAny_pure hq))
theorem aIc {Q:Value→Shared→Prop} (ho:h.get? a=some o) (hc:o.cls= .type "_sre.SRE_Scanner") (hd:o.dict=none) (hv:o.data= .fields vs) (hq:Q (.ref h.objs.size) ⟨h.push (bS a),g,d,t+1,os⟩):
  wpAny (model prog w) A (getAttr (.ref a) "search") Q E ⟨h,g,d,t,os⟩:=by
 have hT:∀t,(⟨h,g,d,t,os⟩:Shared).TypeIs (.ref a) "_sre.SRE_Scanner":=fun t=>⟨o,ho,hc⟩
 have hT5:∀s:Shared,s.TypeIs (.builtin "_sre.SRE_Scanner.search") "method_descriptor":=fun s=>xA
 have f2:=slot_scan_ga.lookup
 have f3:=slot_scan_ga.bind (.ref a)
 have f4:=aNo
 have f5:=xA
 have f6:=slot_md_get.lookup
 have f7:=aIx
 have f8:=zR
 have hT1:=hT (t+1)
 unfold getAttr
 refine wpAny_bind (wpAny_mkText ?_)
 unfold getAttrBy
 refine wpAny_holding (wpAny_bind (wpAny_typeOf hT1 (wpAny_bind (wpAny_of_eq f2 ?_))))
 show wpAny _ _ (getAttrByItsOwn _ _ (.type "_sre.SRE_Scanner") (.builtin "object.__getattribute__") true false) _ _ _
 unfold getAttrByItsOwn
 refine wpAny_bind (wpAny_of_eq (a:=none) rfl ?_)
 refine wpAny_bind (wpAny_attempt (wpAny_holding ?_))
 show wpAny _ _ (boundAndCalled (.builtin "object.__getattribute__") (.ref a) (.str "search" t)) _ _ _
 unfold boundAndCalled
 refine wpAny_bind (wpAny_of_eq f3 ?_)
 refine wpAny_call_entry slot_scan_ga hT1 F.entry_object_getattribute ?_ (F.args_object_getattribute_2 _ _)
 unfold Builtin.«object.__getattribute__»
 refine wpAny_bind (m:=slotArgs "__getattribute__" 1 ⟨[.ref a,.str "search" t],[]⟩) (wpAny_pure ?_)
 refine wpAny_bind (m:=ObjectAttr.attrName (.str "search" t)) (wpAny_pure ?_)
 refine wpAny_bind (wpAny_typeOf hT1 ?_)
 refine wpAny_bind ?_
 unfold ObjectAttr.find
 refine wpAny_bind (wpAny_of_eq f4 ?_)
 refine wpAny_bind (m:=ObjectAttr.getOf _) (wpAny_specialOf (T:="method_descriptor") (name:=Str.ofString "__get__") (hT5 _) f6 ?_)
 refine wpAny_bind ?_
 unfold ObjectAttr.dataDescriptor? ObjectAttr.takesStores
 dsimp only
 refine wpAny_bind (wpAny_bind (wpAny_specialOf (T:="method_descriptor") (name:=Str.ofString "__set__") (hT5 _) f7 ?_))
 refine wpAny_bind (m:=specialOf _ _) (wpAny_specialOf (T:="method_descriptor") (name:=Str.ofString "__delete__") (hT5 _) f8 ?_)
 refine wpAny_pure (wpAny_pure ?_)
 unfold ObjectAttr.ownThenClass ObjectAttr.inOwnDict ObjectAttr.ownDict
 dsimp only
 obtain⟨oc,od,odt,osl⟩:=o
 dsimp only at hc hd hv
 subst hc hd hv
 refine wpAny_bind (wpAny_bind (wpAny_bind (m:=loadHead a) (wpAny_loadPart ho ?_)))
 dsimp only
 unfold instanceDict
 refine wpAny_bind (m:=loadHead a) (wpAny_loadPart ho ?_)
 refine wpAny_pure (wpAny_pure ?_)
 dsimp only
 refine wpAny_bind (m:=ObjectAttr.copiedAttributeGuard _ _) ?_
 unfold ObjectAttr.copiedAttributeGuard
 rw [show(["__module__","__name__","__qualname__","__doc__","__annotations__"]:List PySem.Str).contains "search"=false from by kernel_rfl]
 refine wpAny_pure ?_
 unfold ObjectAttr.byTheClass
 refine wpAny_bind (wpAny_rule (wpAny_pure ?_))
 dsimp only
 show wpAny _ _ (do ret (←holding [.builtin "_sre.SRE_Scanner.search"] (call (.builtin "method_descriptor.__get__") [.builtin "_sre.SRE_Scanner.search",.ref a,.type "_sre.SRE_Scanner"]))) _ _ _
 refine wpAny_bind (wpAny_holding (wpAny_call_entry slot_md_get (hT5 _) aA1 (aC2 ho rfl ⟨_,rfl,wpAny_pure ⟨_,rfl, ?_⟩⟩) (aDb _ _ _)))
 exact handed_on rfl hq
end
end Mine
end
section
namespace Mine
open PySem.Builtin PySem.Builtin.Re PySem.W
theorem vZ:PlainAttrs "re.Pattern":=
 ⟨⟨"object.__getattribute__",by rw [typeLookup_type,builtinLookup_eq_fast];kernel_rfl,by decide+kernel⟩,by rw [typeLookup_type,builtinLookup_eq_fast];kernel_rfl⟩
theorem mM:Slot "re.Pattern" "finditer" "re.Pattern.finditer":=
 .of (owner:="re.Pattern") (n:="finditer") (by rw [typeLookup_type,builtinLookup_eq_fast];kernel_rfl) (by decide+kernel) (by decide+kernel) (by decide+kernel)
  (by first|exact .inl (by decide+kernel)|exact .inr (by decide+kernel)) (by rw [isSubtype_type];kernel_rfl)
theorem wC:hM "re.Pattern" "finditer" "re.Pattern.finditer":=⟨vZ,mM,by show builtinType _=_;rw [builtinType_eq_fast];kernel_rfl⟩
theorem uT:entryFor table "re.Pattern.finditer"=some Builtin.«re.Pattern.finditer»:=entryFor_of_tree (by kernel_rfl)
theorem wY (a:Value) (x:PySem.Str) (t:Tok):argsOk "re.Pattern.finditer" ⟨[a,.str x t],[]⟩:=by unfold argsOk;kernel_rfl
noncomputable def kS (l:List Nat) (i:Int) (must:Bool):AO:=.flds "_sre.SRE_Scanner" [.val (.ref 757),S l,.val (rawInt i),.val (rawInt 0),.val (rawInt l.length),.bool must]
noncomputable def bmO (k:Nat):AO:=.flds "builtin_function_or_method" [.val (.builtin "_sre.SRE_Scanner.search"),.obj k]
noncomputable def ciO (k:Nat):AO:=.flds "callable_iterator" [.obj k,.none,.bool false]
section
variable {K:Params→Frag} {n:Nat} {sc:Scope} {x:Cx} {ρ:List OA} {st st₁ st₂:AS} {l:List Nat} {t:Tok} {objs:List AO}
theorem aBu {M:Model} {A:Around} {E:Value→Shared→Prop} {s:Shared} {id:String} {y:PySem.Str} {Q:Unit→Shared→Prop} (h:Q () s):wpAny M A (reNotHeld id (.str y t)) Q E s:=by
 unfold reNotHeld
 refine wpAny_bind (wpAny_isInstance (T:="str") (b:=false) (show s.TypeIs (.str y t) "str"from rfl) (by rw [isSubtype_type];kernel_rfl) ?_)
 exact wpAny_pure h
set_option maxHeartbeats 1000000 in
theorem wU (hP:Prog2 K) (hl:l.length<1000000):DoesCall K n (.builtin "re.Pattern.finditer") [.val (.ref 757),S l] [] objs (.obj (objs.length+2)) (objs++[kS l 0 false,bmO objs.length,ciO (objs.length+1)]):=by
 intro x hx loc ρ vs kvs ha hk s Q E R kk
 cases hk
 cases ha with|cons d ha=>cases ha with|cons d2 ha=>
 cases ha
 cases d
 have d2':=d2
 obtain⟨⟨t,rfl⟩,_⟩:=d2
 have X:=hx.glo.X.keeps R.base
 refine yS ((hP.pg x.w.params).at_) fun dd vs sl ca h1 zz=> ?_
 have hT:s.TypeIs (.ref 757) "re.Pattern":=⟨_,X _ _ h1,rfl⟩
 refine to1 (wpAny_call_entry mM hT uT ?_ (wY _ _ _))
 unfold Builtin.«re.Pattern.finditer»
 refine wpAny_bind (xL X (hP.pg _) hl ?_)
 refine wpAny_bind (aBu ?_)
 refine wpAny_bind (wpAny_newObj_type ?_ (by show 6≤_;rw [sizeLine_eq];decide))
 refine wpAny_bind (wpAny_holding ?_)
 refine aIc (Heap.get?_push_size _ rfl) rfl rfl rfl ?_
 refine wpAny_bind (wpAny_newObj_type (wpAny_pure ⟨_,rfl, ?_⟩) (by show 3≤_;rw [sizeLine_eq];decide))
 have hz:s.heap.objs.size<s.heap.objs.size+1:=Nat.lt_succ_self _
 have R1:=R.pushNew (o:={cls:=.type "_sre.SRE_Scanner",data:=.fields [.ref 757,.str (mkS l) t,rawInt 0,rawInt 0,rawInt l.length,.bool false].toArray}) (ao:=kS l 0 false)
  ⟨_,rfl,Heap.get?_push_size _ rfl,.cons rfl (.cons (cA d2') (.cons rfl (.cons rfl (.cons rfl (.cons rfl .nil)))))⟩
 have N1:=Next.pushNew (L:=x.L) (ρ:=ρ) (s:=s) {cls:=.type "_sre.SRE_Scanner",data:=.fields [.ref 757,.str (mkS l) t,rawInt 0,rawInt 0,rawInt l.length,.bool false].toArray}
 have R2:=(R1.toks (Nat.succ_pos s.toks)).pushNew (o:=bS s.heap.objs.size) (ao:=bmO objs.length)
  ⟨[_,_],rfl,Heap.get?_push_size _ rfl,.cons rfl (.cons (cA (bV R _)) .nil)⟩
 have R3:=R2.pushNew (o:={cls:=.type "callable_iterator",data:=.fields [.ref ((s.heap.push {cls:=.type "_sre.SRE_Scanner",data:=.fields [.ref 757,.str (mkS l) t,rawInt 0,rawInt 0,rawInt l.length,.bool false].toArray}).objs.size),.none,.bool false].toArray}) (ao:=ciO (objs.length+1))
  ⟨[_,_,_],rfl,Heap.get?_push_size _ rfl,.cons (cA (by have:=bV (R1.toks (Nat.succ_pos s.toks)) ⟨(s.heap.push {cls:=.type "_sre.SRE_Scanner",data:=.fields [.ref 757,.str (mkS l) t,rawInt 0,rawInt 0,rawInt l.length,.bool false].toArray}).objs.size,none⟩;simpa using this)) (.cons rfl (.cons rfl .nil))⟩
 have e3:objs++[kS l 0 false,bmO objs.length,ciO (objs.length+1)]=objs++[kS l 0 false]++[bmO objs.length]++[ciO (objs.length+1)]:=by simp
 rw [e3]at kk
 refine kk _ _ _ R3 (((N1.toks _).trans (Next.pushNew _)).trans (Next.pushNew _)) ?_
 have:=bV R2 ⟨((s.heap.push {cls:=.type "_sre.SRE_Scanner",data:=.fields [.ref 757,.str (mkS l) t,rawInt 0,rawInt 0,rawInt l.length,.bool false].toArray}).push (bS s.heap.objs.size)).objs.size,none⟩
 simpa using this
end
end Mine
end
section
namespace Mine
open PySem.Builtin PySem.Builtin.Re PySem.W
section
variable {K:Params→Frag} {n:Nat} {sc:Scope} {st st₁ st₂:AS} {objs objs':List AO}
theorem aA4 {o e:Expr} {name:PySem.Str} {T id:String} {pa:Addr} {apos pos:Pos} {a v:AV} (hp:dG o=true) (hln:Nat.beq apos.endLine pos.line=true) (he:isStarred e=false)
  (hm:hM T name id) (hT:∀P,∃ob,(K P).lookup pa=some ob∧ob.cls= .type T∧ob.dict=none)
  (h:DoesE K n sc o st (.val (.ref pa)) st₁) (h2:DoesE K n sc e st₁ a st₂) (hc:DoesCall K n (.builtin id) [.val (.ref pa),a] [] st₂.objs v objs'):
  DoesE K n sc (.Call (.Attribute o name apos) [e] [] pos) st v ⟨st₂.loc,objs'⟩:=by
 intro x hx ρ s Q E R kk
 rw [arm_eval_Call,hK hp]
 refine wpAny_bind (h x hx ρ s _ _ R fun u s₁ ρ₁ R₁ N₁ d=> ?_)
 cases d
 refine wpAny_bind (wpAny_standAt ?_)
 have pl:∀ps:Pos,backTo ps (starEach [e] x.env)=[(false,eval e x.env)]:=fun ps=>by rw [bU he];rfl
 have hf:methodCallForm 1 (backTo pos (starEach [e] x.env)) (backToKw pos (keywordEach [] x.env))=true:=by rw [pl];rfl
 unfold methodCall
 rw [show([e].length+([]:List Keyword).length)=1 from rfl,hf]
 have hpos:methodCallPos true o x.env apos pos=pure pos:=by
  unfold methodCallPos
  have:(apos.endLine==pos.line)=true:=by simpa using Nat.eq_of_beq_eq_true hln
  rw [this];rfl
 rw [hpos]
 refine aF fun gq hgq=> ?_
 refine iR (hT x.w.params) fun ob o1 o2 o3=> ?_
 subst hgq
 have X:=hx.glo.X.keeps R₁.base
 refine wpAny_bind (wpAny_holding (getMethod_builtin (T:=T) ⟨ob,X _ _ o1,o2⟩ hm.1 hm.2.1 hm.2.2 (fun b hb=> ?_) ?_))
 ·cases hb;exact⟨ob,X _ _ o1,o3⟩
 ·show wpAny _ _ (callWith pos (.builtin id) [.ref pa] _ _) _ _ _
  rw [pl]
  refine callWith_of (P:=fun h=>(K x.w.params).In h) rfl (fun h X=>dB (by rfl) X) ?_
  unfold evalArgs
  refine wpAny_bind ?_
  show wpAny _ _ (spliced [(false,eval e x.env)]) _ _ _
  refine spliced_cons (h2 x hx ρ₁ s₁ _ _ R₁ fun u s₂ ρ₂ R₂ N₂ d=>wpAny_pure ?_)
  refine wpAny_bind (wpAny_pure (wpAny_holding (wpAny_pure ⟨hx.glo.X.keeps R₂.base, ?_⟩)))
  exact hc x hx.toRun st₂.loc ρ₂ [.ref pa,u] [] (.cons rfl (.cons d .nil)) .nil s₂ _ _ R₂ fun r s₃ ρ₃ R₃ N₃ dr=>kk r s₃ ρ₃ R₃ ((N₁.trans N₂).trans N₃) dr
theorem gI {e:Expr} {v:AV} {pos:Pos} (h:DoesE K n sc e st v st₁):DoesS K n sc (.Return (some e) pos) st (.ret v) st₁:=fun x hx ρ=>by
 rw [arm_exec_Return]
 exact Tri.standAt ((h x hx ρ).bind fun ρ₁ u ex d=>Tri.pure ⟨u,rfl,d⟩)
theorem eQ {y:PySem.Str} {v:Value} {p:Pos} (hk:sc.names.lookup y=some .globalImplicit) (hg:∀P,iO (K P) y v) (hd:(y==("__debug__":PySem.Str))=false):DoesE K n sc (.Name y p) st (.val v) st:=fun x hx ρ=>sT hx hk (hg _) hd
end
section
variable {K:Params→Frag} (hP:Prog2 K) {n:Nat} {objs:List AO} {l:List Nat}
include hP
noncomputable abbrev aKy:Stmt→Expr:=stE
noncomputable def aD9:List Stmt:=aO (aC aR 27)
theorem wP (hl:l.length<1000000):DoesCall K (n+1) (.ref 764) [S l] [] objs (.obj (objs.length+2)) (objs++[kS l 0 false,bmO objs.length,ciO (objs.length+1)]):=by
 have hE:DoesE K n (bC (aC aR 27)) (aKy (aC aD9 0)) ⟨[("pattern",S l)],objs⟩ (.obj (objs.length+2)) ⟨[("pattern",S l)],objs++[kS l 0 false,bmO objs.length,ciO (objs.length+1)]⟩:=by
  have e:∃p1 p2 p3 p5,aKy (aC aD9 0)= .Call (.Attribute (.Name "twin_re_1_glob" p1) "finditer" p2) [.Name "pattern" p3] [] p5∧Nat.beq p2.endLine p5.line=true:=⟨_,_,_,_,rfl,by kernel_rfl⟩
  refine aF fun gq hgq=> ?_
  refine yS e fun p1 p2 p3 p5 e hb=> ?_
  subst hgq
  rw [e]
  exact aA4 (T:="re.Pattern") (pa:=757) (a:=S l) (st₂:=⟨[("pattern",S l)],objs⟩) rfl hb rfl wC hP.pn (eQ (by rw [aN];kernel_rfl) hP.gg (by kernel_rfl)) (aI (m:=3) (td:=[]) (obs:=[]) hP.tab (by kernel_rfl) all_nil) (wU hP hl)
 exact bZ hP.f764.fn (hb1 hP.b764) (by kernel_rfl) (bI (by kernel_rfl)) (fl:=.ret (.obj (objs.length+2))) (loc':=[("pattern",S l)])
  (jR (h:=by
   have e:∃p,aC aD9 0= .Return (some (aKy (aC aD9 0))) p:=⟨_,by rfl⟩
   refine cB e fun p e=> ?_
   have:aO (aC aR 27)=[aC aD9 0]:=by kernel_rfl
   have h:=gI (pos:=p) hE
   rw [←e]at h
   exact h) (hf:=by intro h;cases h)) rfl
end
end Mine
end
section
namespace Mine
open PySem.Builtin PySem.Builtin.Re PySem.W
section
variable {prog:Program} {w:World} {M:Model} {A:Around} {E:Value→Shared→Prop} {s:Shared} {K:Frag} {pa:Addr} {groups:Nat} {code:Array Nat} {l:List Nat} {t:Tok}
theorem aGl {stop:String} {Q:Unit→Shared→Prop} (h:Q () s):wpAny (aP prog w) A (noCollectionInside stop) Q E s:=by
 unfold noCollectionInside
 refine wpAny_bind (wpAny_runValue (codeAny_of_tree ?_))
 have e:hG (.builtin "gc.ask" ⟨[rawInt 13],[]⟩)= .pure (.done (.ret (.bool false))):=aCw (c:=.builtin "gc.ask" ⟨[rawInt 13],[]⟩) (by decide)
 show wpAny _ _ (hG (.builtin "gc.ask" ⟨[rawInt 13],[]⟩)) _ _ _
 rw [e]
 exact wpAny_pure (wpAny_pure h)
theorem aBm {Q:ReTarget→Shared→Prop} (X:K.In s.heap) (hp:PatIn K pa groups code)
  (hq:Q {pattern:=.ref pa,string:=.str (mkS l) t,code,text:=l.toArray,kind:=0,groups,pos:=0,lim:=l.length} s):wpAny M A (reWholeTarget (.ref pa) (.str (mkS l) t)) Q E s:=by
 refine aF fun gq hgq=> ?_
 obtain⟨dd,vs,sl,ca,h1,h2,h3,h4,cc,d2,xs,n,s2,h5,h6⟩:=hp.at_
 subst hgq
 have e1:=X _ _ h1
 have e2:=X _ _ h5
 unfold reWholeTarget
 refine wpAny_bind (wpAny_fieldsOf e1 rfl (wpAny_bind (zC ?_)))
 rw [h4]
 show wpAny _ _ (reNoCollectionInside _ 0>>=_) _ _ _
 refine wpAny_bind (m:=reNoCollectionInside _ 0) (wpAny_pure ?_)
 rw [h3]
 refine wpAny_bind (tI e2 (wpAny_pure ?_))
 rw [h2,h6]
 have z:(mkS l).cps.size=l.length:=by simp [mkS]
 rw [z]
 exact hq
noncomputable def jI (k:Kd) (b e:Nat):List Int:=match k with
 | .plain=>[b,e, -1, -1, -1, -1]
 | .set=>[-1, -1,b,e, -1, -1]
 | .opn=>[-1, -1, -1, -1,b,e]
theorem or3 {a b c:Bool} (h1:a=false) (h2:b=false) (h3:c=false):(a||(b||(c||false)))=false:=by rw [h1,h2,h3];rfl
theorem aIr {p u:Value} {pos lim:Nat} {m:Sre.M} {kd:Kd} {b e:Nat} {Q:Value→Shared→Prop} (hm:PM kd b e m) (hbe:b≤e)
  (h:Q (.ref (s.heap.objs.size+1)) {s with heap:=(s.heap.push {cls:=.type "tuple",data:=.seq ((([b,e]:List Int)++jI kd b e).map rawInt).toArray}).push {cls:=.type "re.Match",data:=.fields [u,p,rawInt pos,rawInt lim,rawInt m.lastindex,.ref s.heap.objs.size].toArray}}):
  wpAny M A (reNewMatch p u 3 pos lim m) Q E s:=by
 refine aF fun gq hgq=> ?_
 obtain⟨h1,h2,h3⟩:=hm
 subst hgq
 have fin:∀sp:List Value,sp=(jI kd b e).map rawInt→wpAny M A (do
   newFields "re.Match" [u,p,rawInt pos,rawInt lim,rawInt m.lastindex,←newTuple (rawInt m.start::rawInt m.handed::sp)]) Q E s:=by
  rintro sp rfl
  rw [h1,h2]
  refine wpAny_bind (wpAny_newTuple ?_ (by rw [sizeLine_eq];cases kd<;>show 8≤_<;>decide))
  refine wpAny_newObj_type ?_ (by show 6≤_;rw [sizeLine_eq];decide)
  rw [Heap.size_push]
  exact h
 have e0:∀p:Bool,(p&&decide (e<b))=false:=fun p=>by rw [decide_eq_false (Nat.not_lt.mpr hbe),Bool.and_false]
 unfold reNewMatch
 dsimp only
 cases kd with
 |plain=>
  obtain⟨g1,c,d,x,y,g2⟩:=h3
  rw [g1,g2]
  exact KFB.if_not (or3 (e0 _) (by cases c<;>cases d<;>rfl) (by cases x<;>cases y<;>rfl)) (fin _ rfl)
 |set=>
  obtain⟨g1,x,y,g2⟩:=h3
  rw [g1,g2]
  exact KFB.if_not (or3 rfl (e0 _) (by cases x<;>cases y<;>rfl)) (fin _ rfl)
 |opn=>
  obtain⟨g1,g2⟩:=h3
  rw [g1,g2]
  exact KFB.if_not (or3 rfl rfl (e0 _)) (fin _ rfl)
end
end Mine
end
section
namespace Mine
open PySem.Builtin PySem.Builtin.Re PySem.W
theorem uS:entryFor table "_sre.SRE_Scanner.search"=some Builtin.«_sre.SRE_Scanner.search»:=entryFor_of_tree (by kernel_rfl)
theorem tJ:plainId "_sre.SRE_Scanner.search"=true:=by kernel_rfl
theorem mL:Slot "re.Match" "__eq__" "object.__eq__":=
 .of (owner:="object") (n:="__eq__") (by rw [typeLookup_type,builtinLookup_eq_fast];kernel_rfl) (by decide+kernel) (by decide+kernel) (by decide+kernel)
  (by first|exact .inl (by decide+kernel)|exact .inr (by decide+kernel)) (by rw [isSubtype_type];kernel_rfl)
theorem oI:Slot "NoneType" "__eq__" "NoneType.__eq__":=F.slot_NoneType_eq
theorem tA:isSubtype (.type "re.Match") (.type "NoneType")=pure false:=by rw [isSubtype_type];kernel_rfl
section
variable {prog:Program} {w:World} {M:Model} {A:Around} {E:Value→Shared→Prop} {s:Shared}
theorem wA {m:Addr} {o:Obj} {Q:Bool→Shared→Prop} (ho:s.heap.get? m=some o) (hc:o.cls= .type "re.Match") (hu:A.units<cLine) (h:Q false s):wpAny (model prog w) A (eqBool .none (.ref m)) Q E s:=by
 have hT:s.TypeIs (.ref m) "re.Match":=⟨o,ho,hc⟩
 have hN:s.TypeIs .none "NoneType":=rfl
 unfold eqBool
 refine wpAny_holding ?_
 show wpAny _ _ (richCompare .Eq .none (.ref m)>>=fun r=>truthOfDropped r) _ _ _
 refine wpAny_bind (SeqAt.rc_eq_decline_or hN hT (by decide) tA oI mL (fun Q' q=> ?_) (fun Q' q=> ?_) (fun Q' q=>wpAny_pure q) (.inr hu) (wpAny_truthy_bool h))
 ·refine wpAny_call_entry oI hN F.entry_NoneType_eq ?_ (F.args_NoneType_eq_2 _ _)
  exact wpAny_pure ⟨_,rfl,q⟩
 ·refine wpAny_call_entry mL hT F.entry_object_eq ?_ (F.args_object_eq_2 _ _)
  exact wpAny_bind (wpAny_pure (wpAny_pure ⟨_,rfl,q⟩))
noncomputable def qO (l:List Nat) (t:Tok) (i:Int) (must:Bool):Obj:={cls:=.type "_sre.SRE_Scanner",data:=.fields #[.ref 757,.str (mkS l) t,rawInt i,rawInt 0,rawInt l.length,.bool must]}
noncomputable def sP (kd:Kd) (b e:Nat):Obj:={cls:=.type "tuple",data:=.seq ((([b,e]:List Int)++jI kd b e).map rawInt).toArray}
noncomputable def iM (l:List Nat) (t:Tok) (li:Int) (ta:Addr):Obj:={cls:=.type "re.Match",data:=.fields #[.str (mkS l) t,.ref 757,rawInt 0,rawInt l.length,rawInt li,.ref ta]}
variable {K:Frag} {l:List Nat} {t:Tok} {bm sa:Addr} {p:Nat}
theorem lO {a:Addr} {cls:Value} {vs:Array Value} {k:Nat} {x:Value} {Q:Unit→Shared→Prop}
  (ho:s.heap.get? a=some {cls:=cls,dict:=none,data:=.fields vs,slots:= #[]}) (hk:k<vs.size)
  (h:∀h',h'.get? a=some {cls:=cls,dict:=none,data:=.fields (vs.setIfInBounds k x),slots:= #[]}→Heap.SameBut a s.heap h'→Q () {s with heap:=h'}):
  wpAny M A (setField (.ref a) k x) Q E s:=
 wpAny_setField ho rfl hk (h _ (Heap.get?_update_self _ ho rfl) (Heap.SameBut.update ..))
theorem vH {a:Addr} {o:Obj} {Q:Unit→Shared→Prop} (ho:s.heap.get? a=some o) (hc:o.cls= .type "_sre.SRE_Scanner") (hnc:∀c,o.data≠ .cls c) (hq:Q () s):wpAny M A (checkBoundCall "_sre.SRE_Scanner.search" ⟨[.ref a],[]⟩) Q E s:=by
 have hT:s.TypeIs (.ref a) "_sre.SRE_Scanner":=⟨o,ho,hc⟩
 have h1:Manifest.signature? "_sre.SRE_Scanner.search"=some ⟨.nothing,"SRE_Scanner.search","search",.self,[]⟩:=by kernel_rfl
 have h2:builtinKind "_sre.SRE_Scanner.search"=some .method:=by kernel_rfl
 have h3:isSubtype (.type "_sre.SRE_Scanner") (.type "module")=pure false:=by rw [isSubtype_type];kernel_rfl
 have h5:Manifest.varargsMethods.contains "_sre.SRE_Scanner.search"=false:=by kernel_rfl
 simp only [checkBoundCall,h1,h2]
 refine wpAny_bind (wpAny_isInstance hT h3 ?_)
 simp only [h5,Bool.or_false,Bool.false_eq_true,if_false]
 refine wpAny_bind ?_
 refine wpAny_bind ?_
 refine wpAny_loadPart (part:=some headPart) ho (wpAny_pure ?_)
 have hd:(match o.data with| .cls _=>true|_=>false)=false:=by
  cases q:o.data with
  |cls c=>exact absurd q (hnc c)
  |_=>rfl
 have e:(match o.data with| .cls c=>true|_=>false)=false:=hd
 cases q:o.data with
 |cls c=>exact absurd q (hnc c)
 |_=>
  refine wpAny_bind (wpAny_typeOf hT ?_)
  exact wpAny_of_eq (a:=()) (by kernel_rfl) hq
theorem aEh {kd:Kd} {b e:Nat} {Q:Value→Shared→Prop} (X:K.In s.heap) (hp:PatIn K 757 3 bM) (hl:l.length<1000000) (hb:s.heap.get? bm=some (bS sa)) (hs:s.heap.get? sa=some (qO l t p false))
  (hd:l.drop p≠ []) (hf:cJ (l.drop p) p=some (kd,b,e)) (hbe:b<e)
  (hq:∀h' li,h'.get? sa=some (qO l t e false)→Heap.SameBut sa s.heap h'→Q (.ref (s.heap.objs.size+1)) {s with heap:=(h'.push (sP kd b e)).push (iM l t li s.heap.objs.size)}):
  wpAny (aP prog w) A (call (.ref bm) []) Q E s:=by
 refine wpAny_call (codeAny_of_tree ?_)
 show wpAny _ A.in1 (callAny (.ref bm) ⟨[],[]⟩) _ _ s
 simp only [callAny]
 refine wpAny_bind (wpAny_load hb ?_)
 show wpAny _ _ (checkBoundCall "_sre.SRE_Scanner.search" ⟨[.ref sa],[]⟩>>=fun zz=>again (.builtin "_sre.SRE_Scanner.search" ⟨[.ref sa],[]⟩)) _ _ _
 refine wpAny_bind (vH hs rfl (by intro c;exact nofun) (wpAny_pure ⟨plainId_quiet tJ _,cD (by decide) uS ?_⟩))
 show wpAny _ _ (reScan "search" true ⟨[.ref sa],[]⟩) _ _ _
 unfold reScan
 dsimp only
 refine wpAny_bind (wpAny_fieldsOf hs rfl ?_)
 show wpAny _ _ (if((p:Int)<0)then _ else _) _ _ _
 rw [if_neg (by lia)]
 refine wpAny_bind (aGl (wpAny_bind (aBm X hp ?_)))
 show wpAny _ _ (reRunToEnd (Sre.forSearch bM l.toArray 3 p l.length false)>>=_) _ _ _
 refine wpAny_bind (mN (lA hl rfl hd) (Nat.lt_of_succ_lt (aO0 hl (r:=l.drop p) (by rw [List.length_drop];lia))) fun m' hm=> ?_)
 refine aF fun gq hgq=> ?_
 refine nX hm fun kd' b' e' hf' hm=> ?_
 rw [hf]at hf'
 cases hf'
 subst hgq
 have h1:=hm.1
 have h2:=hm.2.1
 dsimp only
 rw [h1,h2]
 refine wpAny_bind (lO hs (by simp) fun h1 g1 s1=> ?_)
 refine wpAny_bind (lO g1 (by simp) fun h2 g2 s2=> ?_)
 have s12:=s1.trans s2
 have hne:(e==b)=false:=by simp;lia
 rw [hne]at g2
 refine wpAny_bind (aIr hm (Nat.le_of_lt hbe) (wpAny_pure ?_))
 have:=hq h2 m'.lastindex g2 s12
 rw [←s12.1]at this
 exact this
theorem aBh {Q:Value→Shared→Prop} (X:K.In s.heap) (hp:PatIn K 757 3 bM) (hl:l.length<1000000) (hb:s.heap.get? bm=some (bS sa)) (hs:s.heap.get? sa=some (qO l t p false))
  (hd:l.length≤p) (hq:∀h',h'.get? sa=some (qO l t (-1) false)→Heap.SameBut sa s.heap h'→Q .none {s with heap:=h'}):
  wpAny (aP prog w) A (call (.ref bm) []) Q E s:=by
 refine wpAny_call (codeAny_of_tree ?_)
 show wpAny _ A.in1 (callAny (.ref bm) ⟨[],[]⟩) _ _ s
 simp only [callAny]
 refine wpAny_bind (wpAny_load hb ?_)
 show wpAny _ _ (checkBoundCall "_sre.SRE_Scanner.search" ⟨[.ref sa],[]⟩>>=fun zz=>again (.builtin "_sre.SRE_Scanner.search" ⟨[.ref sa],[]⟩)) _ _ _
 refine wpAny_bind (vH hs rfl (by intro c;exact nofun) (wpAny_pure ⟨plainId_quiet tJ _,cD (by decide) uS ?_⟩))
 show wpAny _ _ (reScan "search" true ⟨[.ref sa],[]⟩) _ _ _
 unfold reScan
 dsimp only
 refine wpAny_bind (wpAny_fieldsOf hs rfl ?_)
 show wpAny _ _ (if((p:Int)<0)then _ else _) _ _ _
 rw [if_neg (by lia)]
 refine wpAny_bind (aGl (wpAny_bind (aBm X hp ?_)))
 show wpAny _ _ (reRunToEnd (Sre.forSearch bM l.toArray 3 p l.length false)>>=_) _ _ _
 refine wpAny_bind (oU (uO hl hd) (by decide) ?_)
 dsimp only
 exact wpAny_bind (lO hs (by simp) fun h1 g1 s1=>wpAny_pure (hq h1 g1 s1))
end
end Mine
end
section
namespace Mine
open PySem.Builtin PySem.Builtin.Re PySem.W
theorem slot_ci_next:Slot "callable_iterator" "__next__" "callable_iterator.__next__":=
 .of (owner:="callable_iterator") (n:="__next__") (by rw [typeLookup_type,builtinLookup_eq_fast];kernel_rfl) (by decide+kernel) (by decide+kernel) (by decide+kernel)
  (by first|exact .inl (by decide+kernel)|exact .inr (by decide+kernel)) (by rw [isSubtype_type];kernel_rfl)
theorem oJ:Slot "callable_iterator" "__iter__" "callable_iterator.__iter__":=
 .of (owner:="callable_iterator") (n:="__iter__") (by rw [typeLookup_type,builtinLookup_eq_fast];kernel_rfl) (by decide+kernel) (by decide+kernel) (by decide+kernel)
  (by first|exact .inl (by decide+kernel)|exact .inr (by decide+kernel)) (by rw [isSubtype_type];kernel_rfl)
theorem mP:entryFor table "callable_iterator.__next__"=some Builtin.«callable_iterator.__next__»:=entryFor_of_tree (by kernel_rfl)
theorem wF:entryFor table "callable_iterator.__iter__"=some Builtin.«dict_keyiterator.__iter__»:=
 entryFor_alias (id':="dict_keyiterator.__iter__") (by kernel_rfl) (by first|rfl|decide+kernel|(unfold String.splitOn;simp+decide [String.splitOnAux])) (by decide+kernel) (by kernel_rfl)
theorem pN (a:Value):argsOk "callable_iterator.__next__" ⟨[a],[]⟩:=by unfold argsOk;kernel_rfl
theorem aAc (a:Value):argsOk "callable_iterator.__iter__" ⟨[a],[]⟩:=by unfold argsOk;kernel_rfl
noncomputable def vG (bm:Addr):Obj:={cls:=.type "callable_iterator",data:=.fields #[.ref bm,.none,.bool false]}
section
variable {prog:Program} {w:World} {M:Model} {A:Around} {E:Value→Shared→Prop} {s:Shared} {K:Frag} {l:List Nat} {t:Tok} {ci bm sa:Addr} {p:Nat}
theorem aO2 {Q:Value→Shared→Prop} (hc:s.heap.get? ci=some (vG bm)) (h:Q (.ref ci) s):wpAny (model prog w) A (pyIter (.ref ci)) Q E s:=by
 have hT:s.TypeIs (.ref ci) "callable_iterator":=⟨_,hc,rfl⟩
 refine wpAny_pyIter_slot hT oJ (wpAny_call_entry oJ hT wF ?_ (aAc _))
 show wpAny _ _ (ret (.ref ci)) _ _ s
 exact wpAny_pure ⟨_,rfl,"callable_iterator",_,hT,slot_ci_next.lookup,h⟩
theorem nU {Q:Bool→Shared→Prop} (hb:s.heap.get? bm=some (bS sa)) (h:Q false s):wpAny M A (borrowsExactly (.ref bm)) Q E s:=by
 unfold borrowsExactly
 refine wpAny_bind (wpAny_load hb ?_)
 exact wpAny_pure h
theorem aEq {kd:Kd} {b e:Nat} {Q:Option Value→Shared→Prop} (X:K.In s.heap) (hp:PatIn K 757 3 bM) (hl:l.length<1000000) (hc:s.heap.get? ci=some (vG bm)) (hb:s.heap.get? bm=some (bS sa)) (hs:s.heap.get? sa=some (qO l t p false))
  (hne:ci≠sa) (hu:A.units+1<cLine) (hd:l.drop p≠ []) (hf:cJ (l.drop p) p=some (kd,b,e)) (hbe:b<e)
  (hq:∀h' li,h'.get? sa=some (qO l t e false)→Heap.SameBut sa s.heap h'→Q (some (.ref (s.heap.objs.size+1))) {s with heap:=(h'.push (sP kd b e)).push (iM l t li s.heap.objs.size)}):
  wpAny (aP prog w) A (pyNext (.ref ci)) Q E s:=by
 have hT:s.TypeIs (.ref ci) "callable_iterator":=⟨_,hc,rfl⟩
 unfold pyNext
 refine wpAny_bind (wpAny_attempt (wpAny_callSpecial?_slot (name:=Str.ofString "__next__") hT slot_ci_next (wpAny_call (eC (by decide) slot_ci_next.plain mP (slot_ci_next.check _ _ _ _ _ _ _ _ hT (pN _) ?_)))))
 unfold Builtin.«callable_iterator.__next__»
 refine wpAny_bind (m:=slotArgs "__next__" 0 ⟨[.ref ci],[]⟩) (wpAny_pure ?_)
 dsimp only
 refine wpAny_bind (wpAny_field hc rfl (x:=.bool false) rfl ?_)
 rw [if_neg (by decide)]
 refine wpAny_bind (wpAny_field hc rfl (x:=.ref bm) rfl ?_)
 refine wpAny_bind (wpAny_attempt ?_)
 unfold callOutOfASlot
 refine wpAny_bind (nU hb ?_)
 show wpAny _ _ (call (.ref bm) []) _ _ _
 refine aEh X hp hl hb hs hd hf hbe fun h' li g1 g2=> ?_
 dsimp only
 have hc':((h'.push (sP kd b e)).push (iM l t li s.heap.objs.size)).get? ci=some (vG bm):=Heap.get?_push_of_some _ (Heap.get?_push_of_some _ ((g2.2 ci hne).trans hc))
 have hm':((h'.push (sP kd b e)).push (iM l t li s.heap.objs.size)).get? (s.heap.objs.size+1)=some (iM l t li s.heap.objs.size):=by
  have e:s.heap.objs.size+1=(h'.push (sP kd b e)).objs.size:=by rw [Heap.size_push,g2.1]
  rw [e]
  exact Heap.get?_push_size _ rfl
 refine wpAny_bind (wpAny_field hc' rfl (x:=.bool false) rfl ?_)
 rw [if_neg (by decide)]
 refine wpAny_bind (wpAny_field hc' rfl (x:=.none) rfl ?_)
 refine wpAny_bind (wpAny_holding (to1 (wA hm' rfl hu ?_)))
 exact wpAny_pure (wpAny_pure (hq h' li g1 g2))
theorem aDd {who:String} {busy:Code→Bool} {Q:Unit→Shared→Prop} (hb:s.heap.get? bm=some (bS sa)) (hn:∀c,busy c=true→aF0 c=true) (h:Q () s):wpQ lK M A (slotLetsGo who (.ref bm) busy) Q E s:=by
 unfold slotLetsGo
 refine aY (fU (nU hb ?_))
 show wpQ lK M A (do
  let b←(do return ((←stack).drop 1).any fun(c,_)=>busy c)
  if b then unsupported s!"{who}:what-C-calls-borrowed-out-of-this-slot-is-let-go-while-that-call-runs") Q E s
 refine aY (aHa hn ?_)
 exact aZ h
theorem aB5 {α:Type} {Q:α→Shared→Prop} (hh:A.handled=none) (h:∀a o h',h'.get? a=some o→o.cls= .type "StopIteration"→(∀b o,s.heap.get? b=some o→h'.get? b=some o)→E (.ref a) {s with heap:=h'}):
  wpAny M A (do raiseNew (←newExc (.type "StopIteration") []):Sem α) Q E s:=by
 refine wpAny_bind ?_
 simp only [newExc,newTuple]
 refine wpAny_bind (wpAny_newObj_type ?_ (by size_fits))
 refine wpAny_bind (m:=firstArgMember _ _) (wpAny_of_eq (a:=Value.none) (by first|rfl|(simp only [firstArgMember];rfl)) ?_)
 refine wpAny_newObj_type ?_ (by size_fits)
 simp only [raiseNew]
 refine wpAny_bind (wpAny_handled ?_)
 rw [hh]
 refine wpAny_bind (wpAny_pure (wpAny_throw ?_))
 exact h _ _ _ (Heap.get?_push_size _ rfl) rfl fun b o e=>Heap.get?_push_of_some _ (Heap.get?_push_of_some _ e)
theorem aBv {Q:Option Value→Shared→Prop} (X:K.In s.heap) (hp:PatIn K 757 3 bM) (hl:l.length<1000000) (hc:s.heap.get? ci=some (vG bm)) (hb:s.heap.get? bm=some (bS sa)) (hs:s.heap.get? sa=some (qO l t p false))
  (hne:ci≠sa) (hne2:bm≠sa) (hh:A.handled=none) (hd:l.length≤p)
  (hq:∀h',HExt [ci,sa] s.heap h'→Q none {s with heap:=h'}):wpP (aP prog w) A (pyNext (.ref ci)) Q E s:=by
 have hT:s.TypeIs (.ref ci) "callable_iterator":=⟨_,hc,rfl⟩
 unfold pyNext
 refine aY (qJ ?_)
 simp only [callSpecial?]
 refine aT (wpAny_specialOf hT slot_ci_next.lookup ?_)
 simp only [slot_ci_next.bind]
 refine dL (aY (aZ (aY (sL (dI rfl ?_)))))
 show wpP _ A.in1 (callAny (.builtin "callable_iterator.__next__") ⟨[.ref ci],[]⟩) _ _ s
 simp only [callAny]
 refine aT (slot_ci_next.check _ _ _ _ _ _ _ _ hT (pN _) (aZ ⟨plainId_quiet slot_ci_next.plain _,wL ?_⟩))
 show wpQ lK _ _ (hG (.builtin "callable_iterator.__next__" ⟨[.ref ci],[]⟩)) _ _ _
 rw [pJ (by decide),vA mP]
 rw [Around.under_plainId slot_ci_next.plain _]
 unfold Builtin.«callable_iterator.__next__»
 refine aY (m:=slotArgs "__next__" 0 ⟨[.ref ci],[]⟩) (aZ ?_)
 dsimp only
 refine aT (wpAny_field hc rfl (x:=.bool false) rfl ?_)
 rw [if_neg (by decide)]
 refine aT (wpAny_field hc rfl (x:=.ref bm) rfl ?_)
 refine aT (wpAny_attempt ?_)
 unfold callOutOfASlot
 refine wpAny_bind (nU hb ?_)
 show wpAny _ _ (call (.ref bm) []) _ _ _
 refine aBh X hp hl hb hs hd fun h₁ g1 g2=> ?_
 dsimp only
 have hc':h₁.get? ci=some (vG bm):=(g2.2 ci hne).trans hc
 have hb':h₁.get? bm=some (bS sa):=(g2.2 bm hne2).trans hb
 refine aT (wpAny_field hc' rfl (x:=.bool false) rfl ?_)
 rw [if_neg (by decide)]
 refine aT (wpAny_field hc' rfl (x:=.none) rfl ?_)
 refine aT (wpAny_holding ?_)
 show wpAny _ _ (holding [.none,.none] (do rule "eq-bool.same-object";return true)) _ _ _
 refine wpAny_holding (wpAny_bind (wpAny_rule (wpAny_pure ?_)))
 rw [if_neg (by decide)]
 refine aT (wpAny_rule ?_)
 refine aY (m:=do
  slotLetsGo "callable_iterator.__next__" (←field (.ref ci) 0) fun| .builtin "callable_iterator.__next__" x=>x.pos.head?==some (.ref ci)|_=>false
  setField (.ref ci) 0 .none;setField (.ref ci) 1 .none;setField (.ref ci) 2 (.bool true)) ?_
 refine aT (wpAny_field hc' rfl (x:=.ref bm) rfl ?_)
 refine aY (aDd hb' (fun c hcb=> ?_) ?_)
 ·split at hcb
  ·rfl
  ·cases hcb
 refine fU (wpAny_bind (lO hc' (by simp) fun h₂ c2 s2=>wpAny_bind (lO c2 (by simp) fun h₃ c3 s3=>lO c3 (by simp) fun h₄ c4 s4=> ?_)))
 refine fU (aB5 hh fun a o h' ho hc h5=> ?_)
 refine aT (wpAny_isInstance (T:="StopIteration") (b:=true) ⟨o,ho,hc⟩ isSubtype_stop ?_)
 refine aZ (hq _ fun b o hbn e=> ?_)
 have n1:b≠ci:=fun q=>hbn (by rw [q];exact .head _)
 have n2:b≠sa:=fun q=>hbn (by rw [q];exact .tail _ (.head _))
 refine h5 _ _ ?_
 exact(s4.2 b n1).trans ((s3.2 b n1).trans ((s2.2 b n1).trans ((g2.2 b n2).trans e)))
end
end Mine
end
section
namespace Mine
theorem fS {r:AV→Value→Prop} {a:AV} {l:List AV} {vs:List Value} {G:Prop} (h:All2 r (a::l) vs) (k:∀v w,r a v→All2 r l w→vs=v::w→G):G:=by cases h with|cons d h=>exact k _ _ d h rfl
theorem aH5 {r:AV→Value→Prop} {vs:List Value} (h:All2 r [] vs):vs=[]:=by cases h;rfl
theorem fQ {v a:Value} {w l vs:List Value} (q:vs=v::w) (h:v=a) (h2:w=l):vs=a::l:=by rw [q,h,h2]
theorem aEm {ρ:List OA} {k:Nat} {y:OA} {v:Value} (e:ρ[k]?=some y) (d:den ρ (.obj k) v):v= .ref y.a:=aH d fun z ez q=>by rw [q,Option.some.inj (e.symm.trans ez)]
theorem aMk {ρ:List OA} {l:List Nat} {m:Nat} {y:OA} {a b c f:Value} {vs:List Value} (e:ρ[m]?=some y) (d:All2 (den ρ) [S l,.val a,.val b,.val c,.val f,.obj m] vs):∃t,vs=[.str (mkS l) t,a,b,c,f,.ref y.a]:=
 fS d fun zz zz d1 d q1=>fS d fun zz zz d2 d q2=>fS d fun zz zz d3 d q3=>fS d fun zz zz d4 d q4=>fS d fun zz zz d5 d q5=>fS d fun zz zz d6 d q6=>cB d1.1 fun t e1=>⟨t,fQ q1 e1 (fQ q2 d2 (fQ q3 d3 (fQ q4 d4 (fQ q5 d5 (fQ q6 (aEm e d6) (aH5 d))))))⟩
open PySem.Builtin PySem.Builtin.Re PySem.W
theorem aBq:PlainAttrs "re.Match":=
 ⟨⟨"object.__getattribute__",by rw [typeLookup_type,builtinLookup_eq_fast];kernel_rfl,by decide+kernel⟩,by rw [typeLookup_type,builtinLookup_eq_fast];kernel_rfl⟩
theorem nA:Slot "re.Match" "group" "re.Match.group":=
 .of (owner:="re.Match") (n:="group") (by rw [typeLookup_type,builtinLookup_eq_fast];kernel_rfl) (by decide+kernel) (by decide+kernel) (by decide+kernel)
  (by first|exact .inl (by decide+kernel)|exact .inr (by decide+kernel)) (by rw [isSubtype_type];kernel_rfl)
theorem tV:hM "re.Match" "group" "re.Match.group":=⟨aBq,nA,by show builtinType _=_;rw [builtinType_eq_fast];kernel_rfl⟩
theorem rG:entryFor table "re.Match.group"=some Builtin.«re.Match.group»:=entryFor_of_tree (by kernel_rfl)
theorem vO (a:Value) (b:Value):argsOk "re.Match.group" ⟨[a,b],[]⟩:=by unfold argsOk;kernel_rfl
theorem zQ:typeLookup (.type "str") "__index__"=pure none:=by rw [typeLookup_type,builtinLookup_eq_fast];kernel_rfl
noncomputable def aIg (i:Int):AV:=.val (rawInt i)
noncomputable def qK (kd:Kd) (b e:Nat):AO:=.tup ((([b,e]:List Int)++jI kd b e).map aIg)
noncomputable def iG (l:List Nat) (li:Int) (m:Nat):AO:=.flds "re.Match" [S l,.val (.ref 757),aIg 0,aIg l.length,aIg li,.obj m]
theorem aCu {ρ:List OA}:∀{l:List Int} {vs:List Value},All2 (den ρ) (l.map aIg) vs→vs=l.map rawInt
 |[],vs,h=>by cases h;rfl
 |i::l,vs,h=>by
  cases h with|cons d h=>
  cases d
  rw [aCu h]
  rfl
theorem aBn (ρ:List OA):∀(l:List Int),All2 (den ρ) (l.map aIg) (l.map rawInt)
 |[]=>.nil
 |i::l=>.cons rfl (aBn ρ l)
theorem aJb (l:List Nat) (b e:Nat):(⟨l.toArray.extract b e⟩:PySem.Str)=mkS ((l.drop b).take (e - b)):=by
 refine gG ?_
 simp [mkS]
section
variable {K:Params→Frag} {n:Nat} {sc:Scope} {x:Cx} {ρ:List OA} {st st₁ st₂:AS} {l:List Nat} {objs:List AO} {kd:Kd} {b e m k:Nat} {li:Int}
theorem Rel.matched {hb:Heap} {L:Addr} {fr:List Env} {s:Shared} {v:Value} (R:Rel hb L fr ρ st s) (ho:st.objs[k]?=some (iG l li m)) (hm:st.objs[m]?=some (qK kd b e)) (d:den ρ (.obj k) v):
  ∃a ta t n,v= .ref a∧s.heap.get? a=some (iM l t li ta)∧s.heap.get? ta=some {cls:=.type "tuple",data:=.seq ((([b,e]:List Int)++jI kd b e).map rawInt).toArray n}:=by
 refine aF fun gq hgq=> ?_
 refine aH (R.objs k _ ho) fun y hy r=> ?_
 refine aH d fun z hz q2_=> ?_;subst q2_
 rw [hy]at hz
 obtain rfl:=Option.some.inj hz
 refine iR r fun vs zz h1 h2=> ?_
 refine aH (R.objs m _ hm) fun y2 hy2 r2=> ?_
 refine kK r2 fun vs2 n zz h3 h4=> ?_
 subst hgq
 have e2:=aCu h4
 subst e2
 refine cB (aMk hy2 h2) fun t e3=> ?_
 subst e3
 exact⟨y.a,y2.a,t,n,rfl,h1,h3⟩
theorem aCn {M:Model} {A:Around} {E:Value→Shared→Prop} {s:Shared} {a ta:Addr} {t:Tok} {n:Nat} {sp:List Int} {Q:ReFound→Shared→Prop} (h1:s.heap.get? a=some (iM l t li ta)) (h2:s.heap.get? ta=some {cls:=.type "tuple",data:=.seq (sp.map rawInt).toArray n})
  (hq:Q ⟨#[.str (mkS l) t,.ref 757,rawInt 0,rawInt l.length,rawInt li,.ref ta],sp.toArray⟩ s):wpAny M A (reFound (.ref a)) Q E s:=by
 unfold reFound
 refine wpAny_bind (wpAny_fieldsOf h1 rfl ?_)
 refine wpAny_bind (tI h2 (wpAny_pure ?_))
 have:((sp.map rawInt).toArray.map reRawOf)=sp.toArray:=by
  rw [List.map_toArray,List.map_map]
  congr 1
  rw [show(reRawOf∘rawInt)=_root_.id from rfl,List.map_id]
 rw [this]
 exact hq
theorem yB {M:Model} {A:Around} {E:Value→Shared→Prop} {s:Shared} {t:Tok} {g b e:Nat} {fs:Array Value} {sp:Array Int} {Q:Value→Shared→Prop} (h0:fs.getD 0 .none= .str (mkS l) t) (hb:sp.getD (2*g) (-1)=b) (he:sp.getD (2*g+1) (-1)=e)
  (hz:l.length<1000000) (hq:Q (.str (mkS ((l.drop b).take (e - b))) s.toks) {s with toks:=s.toks+1}):wpAny M A (reGroupText ⟨fs,sp⟩ g .none) Q E s:=by
 unfold reGroupText
 dsimp only
 rw [hb,he,h0]
 have c:(decide ((b:Int)<0)||decide ((e:Int)<0))=false:=by simp
 rw [c]
 refine wpAny_bind (zC ?_)
 dsimp only
 unfold reSlice
 show wpAny _ _ (mkStr ⟨(mkS l).cps.extract b e⟩) _ _ _
 have:(⟨(mkS l).cps.extract b e⟩:PySem.Str)=mkS ((l.drop b).take (e - b)):=aJb l b e
 rw [this]
 refine wpAny_mkStr hq ?_
 rw [aK,sizeLine_eq,List.length_take,List.length_drop]
 omega
theorem yC {M:Model} {A:Around} {E:Value→Shared→Prop} {s:Shared} {g:Nat} {fs:Array Value} {sp:Array Int} {Q:Value→Shared→Prop} (hb:sp.getD (2*g) (-1)= -1) (hq:Q .none s):wpAny M A (reGroupText ⟨fs,sp⟩ g .none) Q E s:=by
 unfold reGroupText
 dsimp only
 rw [hb]
 exact wpAny_pure hq
theorem aD6 (ho:objs[k]?=some (iG l li m)) (hm:objs[m]?=some (qK kd b e)) (hz:l.length<1000000):DoesCall K n (.builtin "re.Match.group") [.obj k,.int 0] [] objs (S ((l.drop b).take (e - b))) objs:=by
 intro x hx loc ρ vs kvs ha hk s Q E R kk
 refine aF fun gq hgq=> ?_
 cases hk
 cases ha with|cons d ha=>cases ha with|cons d2 ha=>
 cases ha
 refine cB d2 fun t2 q1_=> ?_;subst q1_
 refine aQo (R.matched ho hm d) fun a ta t n' q4_ h1 h2=> ?_;subst q4_
 subst hgq
 have hT:s.TypeIs (.ref a) "re.Match":=⟨_,h1,rfl⟩
 refine to1 (wpAny_call_entry nA hT rG ?_ (vO _ _))
 unfold Builtin.«re.Match.group»
 refine wpAny_bind (m:=noKeywords _ _) (wpAny_pure ?_)
 dsimp only
 refine wpAny_bind (aCn h1 h2 ?_)
 refine wpAny_bind ?_
 unfold reGroupNumber
 refine wpAny_bind (m:=asInt? (.int 0 t2)) (wpAny_pure ?_)
 refine wpAny_bind (m:=asIndex (.int 0 t2)) (wpAny_pure ?_)
 have c:(decide ((0:Int)<0)||decide (2*(0:Int)≥(([b,e]:List Int)++jI kd b e).toArray.size))=false:=by cases kd<;>rfl
 show wpAny _ _ (if(decide ((0:Int)<0)||decide (2*(0:Int)≥(([b,e]:List Int)++jI kd b e).toArray.size))=true then _ else _) _ _ _
 rw [c]
 refine wpAny_pure ?_
 refine wpAny_bind (yB (b:=b) (e:=e) rfl rfl rfl hz (wpAny_pure ⟨_,rfl, ?_⟩))
 refine kk _ _ ρ (R.toks (Nat.succ_pos _)) ((Next.refl ..).toks _) ⟨⟨_,rfl⟩, ?_,(fun h=>by cases h),fun h=>by cases h⟩
 rw [aK,sizeLine_eq,List.length_take,List.length_drop]
 omega
noncomputable def aOg (kd:Kd) (l:List Nat) (b e:Nat):AV:=match kd with
 | .set=>S ((l.drop b).take (e - b))
 |_=>.none
theorem aCs {prog:Program} {w:World} {A:Around} {E:Value→Shared→Prop} {s:Shared} {t:Tok} {Q:Option Value→Shared→Prop} (h:s.heap.get? 754=some {cls:=.type "dict",data:=.dict #[⟨PyData.keyHash w.params "set",.str "set" 1309,.int 2 1310⟩] 1})
  (hq:Q (some (.int 2 1310)) {s with toks:=s.toks+1}):wpAny (model prog w) A (dictGet 754 (.str "set" t)) Q E s:=by
 have hm:s.heap.MapOf (strKind prog w) 754 (fun k=>findBy (strKind prog w).is #[⟨PyData.keyHash w.params "set",.str "set" 1309,.int 2 1310⟩] k):=
  ⟨_,_,1,h,⟨rfl,rfl,rfl⟩,rfl,fun e he=>by
   have:e=⟨PyData.keyHash w.params "set",.str "set" 1309,.int 2 1310⟩:=by simpa using he
   subst this
   exact⟨"set",by kernel_rfl,by kernel_rfl⟩,fun k=>rfl⟩
 refine wpAny_dictGet_of (k:=("set":PySem.Str)) (by kernel_rfl) hm ?_
 have:findBy (strKind prog w).is #[⟨PyData.keyHash w.params "set",.str "set" 1309,.int 2 1310⟩] ("set":PySem.Str)=some (.int 2 1310):=by kernel_rfl
 rw [this]
 exact hq
theorem wT (hP:Prog2 K) (ho:objs[k]?=some (iG l li m)) (hm:objs[m]?=some (qK kd b e)) (hz:l.length<1000000):DoesCall K n (.builtin "re.Match.group") [.obj k,.str "set"] [] objs (aOg kd l b e) objs:=by
 intro x hx loc ρ vs kvs ha hk s Q E R kk
 refine aF fun gq hgq=> ?_
 cases hk
 cases ha with|cons d ha=>cases ha with|cons d2 ha=>
 cases ha
 obtain⟨⟨t2,rfl⟩,_⟩:=d2
 refine aQo (R.matched ho hm d) fun a ta t n' q4_ h1 h2=> ?_;subst q4_
 refine yS (hP.pq x.w.params) fun c dd vs sl e1 e2=> ?_
 subst hgq
 have X:=hx.glo.X.keeps R.base
 have hT:s.TypeIs (.ref a) "re.Match":=⟨_,h1,rfl⟩
 refine to1 (wpAny_call_entry nA hT rG ?_ (vO _ _))
 unfold Builtin.«re.Match.group»
 refine wpAny_bind (m:=noKeywords _ _) (wpAny_pure ?_)
 dsimp only
 refine wpAny_bind (aCn h1 h2 ?_)
 refine wpAny_bind ?_
 unfold reGroupNumber
 refine wpAny_bind (m:=asInt? (.str "set" t2)) (wpAny_pure ?_)
 rw [if_neg (by decide)]
 refine wpAny_bind (m:=specialOf (.str "set" t2) (Str.ofString "__index__")) (wpAny_specialOf (T:="str") (show s.TypeIs (.str "set" t2) "str"from rfl) zQ ?_)
 rw [if_neg (by decide)]
 refine wpAny_bind (m:=fieldsOf (.ref 757)) (wpAny_fieldsOf (X _ _ e1) rfl ?_)
 rw [e2]
 dsimp only
 refine wpAny_bind (aCs (X _ _ (hP.gd _)) ?_)
 dsimp only
 refine wpAny_bind (m:=asInt? (.int 2 1310)) (wpAny_pure ?_)
 refine wpAny_bind (wpAny_pure ?_)
 have c:(decide ((2:Int)<0)||decide (2*(2:Int)≥(([b,e]:List Int)++jI kd b e).toArray.size))=false:=by cases kd<;>rfl
 show wpAny _ _ (if(decide ((2:Int)<0)||decide (2*(2:Int)≥(([b,e]:List Int)++jI kd b e).toArray.size))=true then _ else _) _ _ _
 rw [c]
 refine wpAny_pure ?_
 cases kd with
 |set=>
  refine wpAny_bind (yB (b:=b) (e:=e) rfl rfl rfl hz (wpAny_pure ⟨_,rfl, ?_⟩))
  refine kk _ _ ρ (R.toks (Nat.succ_pos _)) ((Next.refl ..).toks _) ⟨⟨_,rfl⟩, ?_,(fun h=>by cases h),fun h=>by cases h⟩
  rw [aK,sizeLine_eq,List.length_take,List.length_drop]
  omega
 |plain=>exact wpAny_bind (yC rfl (wpAny_pure ⟨_,rfl,kk _ _ ρ (R.toks (Nat.succ_pos _)) ((Next.refl ..).toks _) rfl⟩))
 |opn=>exact wpAny_bind (yC rfl (wpAny_pure ⟨_,rfl,kk _ _ ρ (R.toks (Nat.succ_pos _)) ((Next.refl ..).toks _) rfl⟩))
end
end Mine
end
section
namespace Mine
open PySem.Builtin PySem.Builtin.Re PySem.W
section
variable {K:Params→Frag} {n:Nat} {sc:Scope} {st st₁ st₂:AS} {objs objs':List AO}
theorem pH {o e:Expr} {name:PySem.Str} {T id:String} {k:Nat} {xs:List AV} {apos pos:Pos} {a v:AV} (hp:dG o=true) (hln:Nat.beq apos.endLine pos.line=true) (he:isStarred e=false)
  (hm:hM T name id) (h:DoesE K n sc o st (.obj k) st₁) (ho:st₁.objs[k]?=some (.flds T xs)) (h2:DoesE K n sc e st₁ a st₂) (hc:DoesCall K n (.builtin id) [.obj k,a] [] st₂.objs v objs'):
  DoesE K n sc (.Call (.Attribute o name apos) [e] [] pos) st v ⟨st₂.loc,objs'⟩:=by
 intro x hx ρ s Q E R kk
 rw [arm_eval_Call,hK hp]
 refine wpAny_bind (h x hx ρ s _ _ R fun u s₁ ρ₁ R₁ N₁ d=> ?_)
 refine wpAny_bind (wpAny_standAt ?_)
 have pl:∀ps:Pos,backTo ps (starEach [e] x.env)=[(false,eval e x.env)]:=fun ps=>by rw [bU he];rfl
 have hf:methodCallForm 1 (backTo pos (starEach [e] x.env)) (backToKw pos (keywordEach [] x.env))=true:=by rw [pl];rfl
 unfold methodCall
 rw [show([e].length+([]:List Keyword).length)=1 from rfl,hf]
 have hpos:methodCallPos true o x.env apos pos=pure pos:=by
  unfold methodCallPos
  have:(apos.endLine==pos.line)=true:=by simpa using Nat.eq_of_beq_eq_true hln
  rw [this];rfl
 rw [hpos]
 refine aH (R₁.objs k _ ho) fun y hy r=> ?_
 have d':=d
 refine aF fun gq hgq=> ?_
 refine aH d fun z hz q2_=> ?_;subst q2_
 rw [hy]at hz
 obtain rfl:=Option.some.inj hz
 refine iR r fun vs zz h1 zz=> ?_
 subst hgq
 refine wpAny_bind (wpAny_holding (getMethod_builtin (T:=T) ⟨_,h1,rfl⟩ hm.1 hm.2.1 hm.2.2 (fun b hb=> ?_) ?_))
 ·cases hb;exact⟨_,h1,rfl⟩
 ·show wpAny _ _ (callWith pos (.builtin id) [.ref y.a] _ _) _ _ _
  rw [pl]
  refine callWith_of (P:=fun h=>(K x.w.params).In h) rfl (fun h X=>dB (by rfl) X) ?_
  unfold evalArgs
  refine wpAny_bind ?_
  show wpAny _ _ (spliced [(false,eval e x.env)]) _ _ _
  refine spliced_cons (h2 x hx ρ₁ s₁ _ _ R₁ fun u s₂ ρ₂ R₂ N₂ d=>wpAny_pure ?_)
  refine wpAny_bind (wpAny_pure (wpAny_holding (wpAny_pure ⟨hx.glo.X.keeps R₂.base, ?_⟩)))
  exact hc x hx.toRun st₂.loc ρ₂ [.ref y.a,u] [] (.cons (N₂.den d') (.cons d .nil)) .nil s₂ _ _ R₂ fun r s₃ ρ₃ R₃ N₃ dr=>kk r s₃ ρ₃ R₃ ((N₁.trans N₂).trans N₃) dr
end
noncomputable def scW:Scope:=bC (aC aR 30)
noncomputable def yM:List Stmt:=aO (aC aR 30)
noncomputable def fM:List Stmt:=aO (aC yM 1)
noncomputable abbrev wX:Stmt→Expr:=stE
noncomputable def gr0:Expr:=wX (aC fM 0)
noncomputable def grS:Expr:=kE 0 (stE (aC fM 1))
noncomputable def dX (l acc:List Nat) (more:List (PySem.Str×AV)):List (PySem.Str×AV):=("pattern",S l)::("told",S acc)::more
section
variable {K:Params→Frag} (hP:Prog2 K) {n:Nat} {base:List AO} {l acc:List Nat} {kd:Kd} {b e:Nat} {li:Int}
include hP
noncomputable def obW (base:List AO) (l:List Nat) (kd:Kd) (b e:Nat) (li:Int):List AO:=base++[qK kd b e,iG l li base.length]
theorem aGj:(obW base l kd b e li)[base.length+1]?=some (iG l li base.length):=by simp [obW]
theorem aOj:(obW base l kd b e li)[base.length]?=some (qK kd b e):=by simp [obW]
theorem aJi {more:List (PySem.Str×AV)} (hz:l.length<1000000):DoesE K n scW gr0 ⟨dX l acc (("found",.obj (base.length+1))::more),obW base l kd b e li⟩ (S ((l.drop b).take (e - b))) ⟨dX l acc (("found",.obj (base.length+1))::more),obW base l kd b e li⟩:=by
 have q:∃p1 p2 p3 k1 p5,gr0= .Call (.Attribute (.Name "found" p1) "group" p2) [.Constant (.int 0) k1 p3] [] p5∧Nat.beq p2.endLine p5.line=true:=⟨_,_,_,_,_,rfl,by kernel_rfl⟩
 refine aF fun gq hgq=> ?_
 refine aJu q fun p1 p2 p3 k1 p5 q hb=> ?_
 subst hgq
 rw [q]
 exact pH (st₁:=⟨dX l acc (("found",.obj (base.length+1))::more),obW base l kd b e li⟩) (st₂:=⟨dX l acc (("found",.obj (base.length+1))::more),obW base l kd b e li⟩) (T:="re.Match") (k:=base.length+1) (a:=.int 0) rfl hb rfl tV (aI (m:=3) (td:=[]) (obs:=[]) hP.tab (by kernel_rfl) all_nil) (aGj hP) (aI (m:=3) (td:=[]) (obs:=[]) hP.tab (by kernel_rfl) all_nil) (aD6 (kd:=kd) (m:=base.length) (k:=base.length+1) (li:=li) (aGj hP) (aOj hP) hz)
theorem yH {more:List (PySem.Str×AV)} (hz:l.length<1000000):DoesE K n scW grS ⟨dX l acc (("found",.obj (base.length+1))::more),obW base l kd b e li⟩ (aOg kd l b e) ⟨dX l acc (("found",.obj (base.length+1))::more),obW base l kd b e li⟩:=by
 have q:∃p1 p2 p3 k1 p5,grS= .Call (.Attribute (.Name "found" p1) "group" p2) [.Constant (.str "set") k1 p3] [] p5∧Nat.beq p2.endLine p5.line=true:=⟨_,_,_,_,_,rfl,by kernel_rfl⟩
 refine aF fun gq hgq=> ?_
 refine aJu q fun p1 p2 p3 k1 p5 q hb=> ?_
 subst hgq
 rw [q]
 exact pH (st₁:=⟨dX l acc (("found",.obj (base.length+1))::more),obW base l kd b e li⟩) (st₂:=⟨dX l acc (("found",.obj (base.length+1))::more),obW base l kd b e li⟩) (T:="re.Match") (k:=base.length+1) (a:=.str "set") rfl hb rfl tV (aI (m:=3) (td:=[]) (obs:=[]) hP.tab (by kernel_rfl) all_nil) (aGj hP) (aI (m:=3) (td:=[]) (obs:=[]) hP.tab (by kernel_rfl) all_nil) (wT hP (kd:=kd) (m:=base.length) (k:=base.length+1) (li:=li) (aGj hP) (aOj hP) hz)
end
end Mine
end
section
namespace Mine
theorem tD {l:List Nat} {i j:Option Int} {a b:Nat} (hab:a≤b) (hb:b≤l.length) (h:Builtin.Str.strSliceIndices i j 1 l.length=Builtin.Str.strSliceIndices (some (a:Int)) (some (b:Int)) 1 l.length):
  Txt.slice (mkS l) i j=mkS ((l.drop a).take (b - a)):=by
 have e:Txt.slice (mkS l) i j=Txt.slice (mkS l) (some (a:Int)) (some (b:Int)):=by
  unfold Txt.slice
  rw [aK,h]
 rw [e]
 refine gG ?_
 rw [oK (mkS l) hab (by rw [aK];exact hb)]
 simp [mkS]
noncomputable def rO (v:Option Int) (d n:Int):Int:=match v with
 |none=>d
 |some i=>max 0 (min (if i<0 then i+n else i) n)
theorem oX (i j:Option Int) (n:Nat):Builtin.Str.strSliceIndices i j 1 n=sliceRange (rO i 0 n) (rO j n n) 1:=by
 cases i<;>cases j<;>rfl
theorem aA7 {i j i' j':Option Int} {n:Nat} (h1:rO i 0 n=rO i' 0 n) (h2:rO j n n=rO j' n n):
  Builtin.Str.strSliceIndices i j 1 n=Builtin.Str.strSliceIndices i' j' 1 n:=by
 rw [oX,oX,h1,h2]
theorem vF {d n:Int} {k:Nat}:rO (some (k:Int)) d n=max 0 (min (k:Int) n):=by
 show max 0 (min (if(k:Int)<0 then _ else _) n)=_
 rw [if_neg (Int.not_lt.mpr (Int.natCast_nonneg k))]
theorem nB {l:List Nat} {a:Nat} (h:a≤l.length):Txt.slice (mkS l) (some (a:Int)) none=mkS (l.drop a):=by
 rw [tD (a:=a) (b:=l.length) h (Nat.le_refl _) (aA7 rfl (by rw [vF];show(l.length:Int)=_;rw [Int.min_self,Int.max_eq_right (Int.natCast_nonneg _)]))]
 congr 1
 rw [List.take_of_length_le]
 rw [List.length_drop]
 exact Nat.le_refl _
theorem aBe {l:List Nat} {b:Nat} (h:b≤l.length):Txt.slice (mkS l) none (some (b:Int))=mkS (l.take b):=by
 rw [tD (a:=0) (b:=b) (Nat.zero_le _) h (aA7 (by show(0:Int)=rO (some ((0:Nat):Int)) 0 _;rw [vF];show(0:Int)=max 0 (min 0 _);rw [Int.min_eq_left (Int.natCast_nonneg _)];rfl) rfl)]
 simp
theorem aI9 {l:List Nat} (h:2≤l.length):Txt.slice (mkS l) (some 1) (some (-1))=mkS ((l.drop 1).take (l.length - 2)):=by
 have e:((l.length - 1:Nat):Int)= -1+(l.length:Int):=by lia
 have:=tD (i:=some 1) (j:=some (-1)) (a:=1) (b:=l.length - 1) (l:=l) (by lia) (by lia) (aA7 rfl (by rw [vF,e];rfl))
 rw [this]
 congr 2
theorem rP (c:Nat) (r:List Nat):Txt.charAt (mkS (c::r)) 0=some c:=by
 have h:seqIndex? 0 (mkS (c::r)).length=some 0:=by
  unfold seqIndex?
  rw [aK,List.length_cons]
  simp
 unfold Txt.charAt
 rw [h]
 rfl
noncomputable def iY (seg:List Nat):List Nat:=(seg.drop 1).take (seg.length - 2)
noncomputable def eB (kd:Kd) (seg:List Nat):List Nat:=match kd with
 | .plain=>aM seg
 | .set=>91::(aM (iY seg)++[93])
 | .opn=>91::aM (seg.drop 1)
theorem eY (l:List Nat):(aM l).length≤6*l.length+2:=by
 unfold aM
 split
 ·simp
 ·split
  ·lia
  ·have:=cF 39 [39,34,39,34,39] l
   simp at this⊢
   lia
theorem aC0 (l:List Nat):(iY l).length≤l.length:=by
 unfold iY
 rw [List.length_take,List.length_drop]
 omega
theorem cR (a b:List Nat):mkS a++mkS b=mkS (a++b):=by
 refine gG ?_
 show(_++_:Array Nat).toList=_
 simp [mkS]
theorem lJ {e:Option Bool} {y:Str} {l:List Nat} (h:y=mkS l):AVle (.sym e y) (S l):=by subst h;exact dU
theorem dJ {y:Str} {l:List Nat} (h:y=mkS l):AVle (.str y) (S l):=by subst h;exact vM
section
variable {K:Params→Frag} {n:Nat} {sc:Scope} {st st₁ st₂:AS} {v:AV} {e:Expr} {b:Bool}
theorem pG {y:Str} {yp pos:Pos} (hc:dY e=false) (hk:sc.names.lookup y=some .local) (h:DoesE K n sc e st v st₁):DoesS K n sc (.Assign [.Name y yp] e pos) st .next ⟨put y v st₁.loc,st₁.objs⟩:=by
 intro x hx ρ
 rw [arm_exec_Assign]
 refine Tri.standAt ?_
 show Tri x ρ st (swapsWith e (some (.Name y yp)) pos.line x.env>>=_) _ _
 rw [gT hc,pR (by intros;exact nofun) (by intros;exact nofun)]
 show Tri x ρ st (eval e x.env>>=fun v=>(do assignAll v [assign (.Name y yp) x.env];pure Flow.next)) _ _
 refine(h x hx ρ).bind fun ρ₁ u ex d=> ?_
 show Tri x ρ₁ st₁ ((do assign (.Name y yp) x.env u)>>=fun zz=>pure Flow.next) _ _
 rw [arm_assign_Name]
 exact Tri.bind (p:=fun zz zz=>True) (Tri.standAt (cI hx hk d)) fun zz zz zz zz=>Tri.pure rfl
theorem kC {k:Nat} {p pos:Pos} (h:aDc K n sc e st b st₁):cW K n sc (.Compare e [.IsNot] [.Constant .none k p] pos) st (!b) st₁:=by
 intro x hx ρ
 rw [arm_isTrue_Compare]
 refine(h x hx ρ).bind fun ρ₁ v ex hv=> ?_
 show Tri x ρ₁ st₁ (do let rv←holding [v] (eval (.Constant .none k p) x.env);standAt pos;let c←operate [v,rv] (compareOp .IsNot v rv);holding [c] (truthy c)) _ _
 refine Tri.bind (p:=fun zz r=>r= .none) (Tri.holding (iT (a:=.none) rfl)) fun ρ₂ u ex2 hu=> ?_
 subst hu
 refine Tri.standAt (Tri.bind (Tri.operate kO) fun ρ₃ c ex3 hc=>Tri.holding ?_)
 subst hc
 exact bA fun s Q E k=>wpAny_truthy_bool (k _ s.toks (by rw [hv]))
theorem aFd (h:DoesE K n sc e st .none st₁):aDc K n sc e st true st₁:=fun x hx ρ=>(h x hx ρ).imp fun ρ' u zz d=>by cases d;rfl
theorem aNz {l:List Nat} (h:DoesE K n sc e st (S l) st₁):aDc K n sc e st false st₁:=fun x hx ρ=>(h x hx ρ).imp fun ρ' u zz d=>by obtain⟨⟨t,rfl⟩,_⟩:=d;rfl
end
section
variable {K:Params→Frag} (hP:Prog2 K) {n:Nat} {base:List AO} {l acc:List Nat} {kd:Kd} {b e:Nat} {li:Int}
include hP
noncomputable def nG (base:List AO):Str×AV:=("found",.obj (base.length+1))
noncomputable def cL (l:List Nat) (b e:Nat):List Nat:=(l.drop b).take (e - b)
noncomputable def stW (base:List AO) (l acc:List Nat) (kd:Kd) (b e:Nat) (li:Int):AS:=⟨dX l acc [nG base,("piece",S (cL l b e))],obW base l kd b e li⟩
noncomputable def ifW:Stmt:=aC fM 1
theorem zY (hz:l.length<1000000):DoesS K n scW (aC fM 0) ⟨dX l acc [nG base],obW base l kd b e li⟩ .next (stW base l acc kd b e li):=by
 have q:∃p1 p2,aC fM 0= .Assign [.Name "piece" p1] gr0 p2:=⟨_,_,rfl⟩
 refine iK q fun p1 p2 q=> ?_
 rw [q]
 exact pG (by rfl) (by rw [aN];kernel_rfl) (aJi hP (more:=[]) hz)
theorem aNs (hz:l.length<1000000) {f:AFlow} {st:AS} (h:DoesB K n scW (aO ifW) (stW base l acc .set b e li) f st):DoesS K n scW ifW (stW base l acc .set b e li) f st:=by
 have q:∃k p1 p2 p3,ifW= .If (.Compare grS [.IsNot] [.Constant .none k p1] p2) (aO ifW) (orW ifW) p3:=⟨_,_,_,_,rfl⟩
 refine aF fun gq hgq=> ?_
 refine aJv q fun k p1 p2 p3 q=> ?_
 subst hgq
 rw [q]
 refine mQ (kC (b:=false) (aNz (yH hP (kd:=.set) (more:=[("piece",S (cL l b e))]) hz))) ?_
 exact h
theorem aCh (hk:kd≠ .set) (hz:l.length<1000000) {f:AFlow} {st:AS} (h:DoesB K n scW (orW ifW) (stW base l acc kd b e li) f st):DoesS K n scW ifW (stW base l acc kd b e li) f st:=by
 have q:∃k p1 p2 p3,ifW= .If (.Compare grS [.IsNot] [.Constant .none k p1] p2) (aO ifW) (orW ifW) p3:=⟨_,_,_,_,rfl⟩
 refine aF fun gq hgq=> ?_
 refine aJv q fun k p1 p2 p3 q=> ?_
 subst hgq
 rw [q]
 have hn:DoesE K n scW grS (stW base l acc kd b e li) .none (stW base l acc kd b e li):=by
  have:=yH hP (n:=n) (base:=base) (l:=l) (acc:=acc) (kd:=kd) (b:=b) (e:=e) (li:=li) (more:=[("piece",S (cL l b e))]) hz
  cases kd with
  |set=>exact absurd rfl hk
  |plain=>exact this
  |opn=>exact this
 refine eP (kC (b:=true) (aFd hn)) ?_
 exact h
theorem aK4 (hz:l.length<100000) (hbe:b+2≤e) (hel:e≤l.length) (hd:acc.length+6*(e - b)+4≤999999):
  DoesB K (n+1) scW fM ⟨dX l acc [nG base],obW base l .set b e li⟩ .next ⟨dX l (acc++eB .set (cL l b e)) [nG base,("piece",S (cL l b e))],obW base l .set b e li⟩:=by
 have hseg:(cL l b e).length=e - b:=by unfold cL;rw [List.length_take,List.length_drop];lia
 have q:fM=[aC fM 0,ifW]:=by rfl
 rw [q]
 refine bD (zY hP (by lia)) (bD (aNs hP (by lia) ?_) cM)
 unfold stW
 generalize cL l b e=seg at*
 have hm:=aC0 seg
 have hq:=nR hP (n:=n) (objs:=obW base l .set b e li) (l:=iY seg) (by lia)
 have hql:=eY (iY seg)
 refine DoesB.post (st₁:=⟨[("pattern",S l),("told",.sym (some true) (mkS acc++(("["++mkS (aM (iY seg)))++"]"))),nG base,("piece",S seg)],obW base l .set b e li⟩)
  (aB (m:=20) (k:=20) (td:=[.v (S (iY seg)),.c (S (aM (iY seg))) (obW base l .set b e li)])
   (obs:=[AVle (.sym none (Txt.slice (mkS seg) (some 1) (some (-1)))) (S (iY seg)),
    DoesCall K (n+1) (.ref 752) [S (iY seg)] [] (obW base l .set b e li) (S (aM (iY seg))) (obW base l .set b e li),
    Str.length "["+(mkS (aM (iY seg))).length≤sizeLine,
    ("["++mkS (aM (iY seg)):Str).length+Str.length "]"≤sizeLine,
    (mkS acc).length+(("["++mkS (aM (iY seg)))++"]":Str).length≤sizeLine]) hP.tab (by kernel_rfl)
   (aA (by rw [aI9 (by lia)];exact AVle.refl _) (aA hq (aA ?_ (aA ?_ (aA ?_ all_nil)))))) ?_
 ·rw [aK,sizeLine_eq];show 1+_≤_;lia
 ·rw [Str.length_append,aK,sizeLine_eq];show(1+_)+1≤_;lia
 ·rw [Str.length_append,Str.length_append,aK,aK,sizeLine_eq];show _+((1+_)+1)≤_;lia
 ·refine⟨.cons ⟨rfl,AVle.refl _⟩ (.cons ⟨rfl,lJ ?_⟩ (FLe.refl _)),bG AOle.refl _⟩
  show mkS acc++((mkS [91]++mkS (aM (iY seg)))++mkS [93])=_
  rw [cR,cR,cR]
  rfl
theorem aDi {c:Nat} {r:List Nat} (hz:l.length<100000) (hc:cL l b e=c::r) (hc2:c≠91) (hbe:b<e) (hel:e≤l.length) (hd:acc.length+6*(e - b)+4≤999999):
  DoesB K (n+1) scW fM ⟨dX l acc [nG base],obW base l .plain b e li⟩ .next ⟨dX l (acc++eB .plain (cL l b e)) [nG base,("piece",S (cL l b e))],obW base l .plain b e li⟩:=by
 have hseg:(cL l b e).length=e - b:=by unfold cL;rw [List.length_take,List.length_drop];lia
 have q:fM=[aC fM 0,ifW]:=by rfl
 rw [q]
 refine bD (zY hP (by lia)) (bD (aCh hP (by decide) (by lia) ?_) cM)
 unfold stW
 generalize cL l b e=seg at*
 have hq:=nR hP (n:=n) (objs:=obW base l .plain b e li) (l:=seg) (by lia)
 have hql:=eY seg
 refine DoesB.post (st₁:=⟨[("pattern",S l),("told",.sym none (mkS acc++mkS (aM seg))),nG base,("piece",S seg)],obW base l .plain b e li⟩)
  (aB (m:=20) (k:=20) (td:=[.v (.chr (.cofin [91]) c),.c (S (aM seg)) (obW base l .plain b e li)])
   (obs:=[fitsSsize 0=true,Txt.charAt (mkS seg) 0=some c,(Cls.cofin [91]).has c,
    DoesCall K (n+1) (.ref 752) [S seg] [] (obW base l .plain b e li) (S (aM seg)) (obW base l .plain b e li),
    (mkS acc).length+(mkS (aM seg)).length≤sizeLine]) hP.tab (by kernel_rfl)
   (aA (by decide) (aA ?_ (aA (by show c∉ [91];simpa using hc2) (aA hq (aA ?_ all_nil)))))) ?_
 ·rw [hc];exact rP _ _
 ·rw [aK,aK,sizeLine_eq];lia
 ·refine⟨.cons ⟨rfl,AVle.refl _⟩ (.cons ⟨rfl,lJ ?_⟩ (FLe.refl _)),bG AOle.refl _⟩
  rw [cR]
  rfl
theorem aK5 {r:List Nat} (hz:l.length<100000) (hc:cL l b e=91::r) (hbe:b<e) (hel:e≤l.length) (hd:acc.length+6*(e - b)+4≤999999):
  DoesB K (n+1) scW fM ⟨dX l acc [nG base],obW base l .opn b e li⟩ .next ⟨dX l (acc++eB .opn (cL l b e)) [nG base,("piece",S (cL l b e))],obW base l .opn b e li⟩:=by
 have hseg:(cL l b e).length=e - b:=by unfold cL;rw [List.length_take,List.length_drop];lia
 have q:fM=[aC fM 0,ifW]:=by rfl
 rw [q]
 refine bD (zY hP (by lia)) (bD (aCh hP (by decide) (by lia) ?_) cM)
 unfold stW
 generalize cL l b e=seg at*
 have hdl:(seg.drop 1).length≤seg.length:=by rw [List.length_drop];lia
 have hq:=nR hP (n:=n) (objs:=obW base l .opn b e li) (l:=seg.drop 1) (by lia)
 have hql:=eY (seg.drop 1)
 refine DoesB.post (st₁:=⟨[("pattern",S l),("told",.sym (some true) (mkS acc++("["++mkS (aM (seg.drop 1))))),nG base,("piece",S seg)],obW base l .opn b e li⟩)
  (aB (m:=20) (k:=20) (td:=[.v (.chr (.fin [91]) 91),.v (S (seg.drop 1)),.c (S (aM (seg.drop 1))) (obW base l .opn b e li)])
   (obs:=[fitsSsize 0=true,Txt.charAt (mkS seg) 0=some 91,(Cls.fin [91]).has 91,
    AVle (.sym none (Txt.slice (mkS seg) (some 1) none)) (S (seg.drop 1)),
    DoesCall K (n+1) (.ref 752) [S (seg.drop 1)] [] (obW base l .opn b e li) (S (aM (seg.drop 1))) (obW base l .opn b e li),
    Str.length "["+(mkS (aM (seg.drop 1))).length≤sizeLine,
    (mkS acc).length+("["++mkS (aM (seg.drop 1)):Str).length≤sizeLine]) hP.tab (by kernel_rfl)
   (aA (by decide) (aA ?_ (aA (by show 91∈ [91];simp) (aA ?_ (aA hq (aA ?_ (aA ?_ all_nil)))))))) ?_
 ·rw [hc];exact rP _ _
 ·have:=nB (l:=seg) (a:=1) (by lia)
  rw [show((1:Int))=((1:Nat):Int)from rfl,this]
  exact AVle.refl _
 ·rw [aK,sizeLine_eq];show 1+_≤_;lia
 ·rw [Str.length_append,aK,aK,sizeLine_eq];show _+(1+_)≤_;lia
 ·refine⟨.cons ⟨rfl,AVle.refl _⟩ (.cons ⟨rfl,lJ ?_⟩ (FLe.refl _)),bG AOle.refl _⟩
  show mkS acc++(mkS [91]++mkS (aM (seg.drop 1)))=_
  rw [cR,cR]
  rfl
end
end Mine
end
section
namespace Mine
noncomputable def bB (l:List Nat):Nat→Nat→List Nat
 |0,_=>[]
 |f+1,p=>match cJ (l.drop p) p with
  |some (k,b,e)=>eB k (cL l b e)++bB l f e
  |none=>[]
theorem lP:∀{r:List Nat} {k:Nat},cU r=some k→k<r.length
 |[],k,h=>by cases h
 |c::r,k,h=>by
  unfold cU at h
  split at h
  ·cases h;simp
  ·split at h
   ·cases h
   ·refine aH (Option.map_eq_some_iff.mp h) fun j hj q2_=> ?_;subst q2_
    have:=lP hj
    simp;omega
theorem pB {l:List Nat}:∀{r:List Nat} {p:Nat} {k:Kd} {b e:Nat},l.drop p=r→cJ r p=some (k,b,e)→p≤b∧b<e∧e≤l.length∧(k= .set→b+2≤e)∧(∃c t,cL l b e=c::t∧(k= .plain→c≠91)∧(k= .opn→c=91))
 |[],p,k,b,e,_,h=>by cases h
 |c::r,p,k,b,e,hd,h=>by
  refine rS (fD hd) fun zz hlt hd2=> ?_
  have hlen:(l.drop p).length=r.length+1:=by rw [hd];rfl
  rw [List.length_drop]at hlen
  have hseg:∀e,p<e→cL l p e=c::r.take (e - p - 1):=fun e he=>by
   unfold cL
   rw [hd]
   obtain⟨m,hm⟩:∃m,e - p=m+1:=⟨e - p - 1,by lia⟩
   rw [hm]
   rfl
  unfold cJ at h
  split at h
  ·rename_i hc
   cases h
   have:=(List.takeWhile_prefix (· !=91) (l:=r)).length_le
   exact⟨Nat.le_refl _,by lia,by lia,(fun q=>by cases q),c,_,hseg _ (by lia),(fun zz=>hc),fun q=>by cases q⟩
  ·rename_i hc
   split at h
   ·rename_i k' hk
    cases h
    have:=lP hk
    exact⟨Nat.le_refl _,by lia,by lia,(fun zz=>by lia),c,_,hseg _ (by lia),(fun q=>by cases q),fun q=>by cases q⟩
   ·split at h
    ·refine aJx (pB hd2 h) fun a1 a2 a3 a4 a5=> ?_
     exact⟨by lia,a2,a3,a4,a5⟩
    ·cases h
     exact⟨Nat.le_refl _,by lia,by lia,(fun q=>by cases q),c,_,hseg _ (by lia),(fun q=>by cases q),fun zz=>by simpa using hc⟩
theorem aF8 {l:List Nat} (hl:l.length<1000000) {p:Nat} (hd:l.drop p≠ []):∃k b e,cJ (l.drop p) p=some (k,b,e):=by
 refine aF fun gq hgq=> ?_
 obtain⟨_,_,_,_,k,b,e,h,_⟩:=lA hl (p:=p) rfl hd
 subst hgq
 exact⟨k,b,e,h⟩
theorem tL (k:Kd) (seg:List Nat):(eB k seg).length≤6*seg.length+4:=by
 cases k with
 |plain=>have:=eY seg;show(aM seg).length≤_;lia
 |set=>
  have h1:=eY (iY seg)
  have h2:=aC0 seg
  show(91::(aM (iY seg)++[93])).length≤_
  simp;lia
 |opn=>
  have h1:=eY (seg.drop 1)
  have h2:(seg.drop 1).length≤seg.length:=by rw [List.length_drop];lia
  show(91::aM (seg.drop 1)).length≤_
  simp at h1⊢;lia
section
variable {K:Params→Frag} (hP:Prog2 K) {n:Nat} {base:List AO} {l:List Nat} {kd:Kd} {b e:Nat} {li:Int}
include hP
theorem aP7 {acc:List Nat} (hz:l.length<100000) {p:Nat} (hf:cJ (l.drop p) p=some (kd,b,e)) (hd:acc.length+6*(e - b)+4≤999999):
  DoesB K (n+1) scW fM ⟨dX l acc [nG base],obW base l kd b e li⟩ .next ⟨dX l (acc++eB kd (cL l b e)) [nG base,("piece",S (cL l b e))],obW base l kd b e li⟩:=by
 refine aF fun gq hgq=> ?_
 obtain⟨h1,h2,h3,h4,c,t,h5,h6,h7⟩:=pB rfl hf
 subst hgq
 cases kd with
 |set=>exact aK4 hP hz (h4 rfl) h3 hd
 |plain=>exact aDi hP hz h5 (h6 rfl) h2 h3 hd
 |opn=>
  have:=h7 rfl
  subst this
  exact aK5 hP hz h5 h2 h3 hd
theorem aLe {x:Cx} (hx:x.Ok K (n+1) scW) (hz:l.length<50000) (hbase:base.all (AO.below base.length)=true) {ci bm sa:Addr} {t:Tok} {pp:Pos} {ρ:List OA} {s₀:Shared}
  (u1:Untold x ρ ci) (u2:Untold x ρ sa) (u3:Untold x ρ bm) (n1:ci≠sa) (n2:bm≠sa):∀(f p:Nat) (acc:List Nat) (s:Shared) (R:Result→Shared→Prop),p≤l.length→l.length - p<f→acc.length+10*(l.length - p)≤900000→
   Rel x.hb x.L x.fr ρ ⟨dX l acc [],base⟩ s→NextX [ci,sa] x.L ρ s₀ ρ s→s.heap.get? ci=some (vG bm)→s.heap.get? bm=some (bS sa)→s.heap.get? sa=some (qO l t p false)→
   (∀s',Rel x.hb x.L x.fr ρ ⟨dX l (acc++bB l f p) [],base⟩ s'→NextX [ci,sa] x.L ρ s₀ ρ s'→R (.ok .next) s')→dF (mx x) x.A (.forLoop (.Name "found" pp) (.ref ci) fM [] x.env) R s
 |0,p,acc,s,R,hp,hf,ha,RR,N,hc,hb,hs,kk=>absurd hf (Nat.not_lt_zero _)
 |f+1,p,acc,s,R,hp,hf,ha,RR,N,hc,hb,hs,kk=>by
  have X:=hx.glo.X.keeps RR.base
  have fm:∀c∈ [ci,sa],aQj s c:=fun c hcm o e es m q=>by
   rcases List.mem_cons.mp hcm with rfl|hcm
   ·rw [hc]at e;cases e;cases q
   ·have:c=sa:=by simpa using hcm
    subst this
    rw [hs]at e;cases e;cases q
  have un:∀c∈ [ci,sa],Untold x ρ c:=fun c hcm=>by
   rcases List.mem_cons.mp hcm with rfl|hcm
   ·exact u1
   ·have:c=sa:=by simpa using hcm
    subst this
    exact u2
  by_cases hd:l.drop p=[]
  ·have hle:l.length≤p:=uU hd
   have e0:bB l (f+1) p=[]:=by unfold bB;rw [hd];rfl
   refine vE (aBv X (hP.pg _) (by lia) hc hb hs n1 n2 hx.handled hle fun h' hh=> ?_)
   refine aLw (rN ?_)
   rw [arm_execs_nil]
   refine wpAny_pure (kk _ ?_ ?_)
   ·rw [e0,List.append_nil]
    exact RR.touch un fm hh RR.tk
   ·exact N.touch hh _
  ·refine aH9 (aF8 (by lia) hd) fun kd b e hfr=> ?_
   refine aJx (pB rfl hfr) fun g1 g2 g3 zz zz=> ?_
   have hseg:(cL l b e).length=e - b:=by unfold cL;rw [List.length_take,List.length_drop];lia
   have hpl:=tL kd (cL l b e)
   refine vE (fU (aEq X (hP.pg _) (by lia) hc hb hs n1 (by have:=hx.bud.2;lia) hd hfr g2 fun h' li q1 q2=> ?_))
   have hext:HExt [ci,sa] s.heap h':=fun c o hcn ho=>(q2.2 c (fun z=>hcn (by rw [z];exact .tail _ (.head _)))).trans ho
   have R1:=RR.touch un fm hext RR.tk
   have N1:=N.touch hext s.toks
   have hc1:h'.get? ci=some (vG bm):=(q2.2 ci n1).trans hc
   have hb1:h'.get? bm=some (bS sa):=(q2.2 bm n2).trans hb
   rw [←q2.1]
   have R2:=R1.pushNew (o:=sP kd b e) (ao:=qK kd b e) ⟨_,_,rfl,Heap.get?_push_size _ rfl,aBn _ _⟩
   have d1:=bV R1 ⟨h'.objs.size,none⟩
   have d1:den (ρ++[⟨h'.objs.size,none⟩]) (.obj base.length) (.ref h'.objs.size):=d1
   have dS:∀ρ,den ρ (S l) (.str (mkS l) t):=fun ρ=>⟨⟨t,rfl⟩,by rw [aK,sizeLine_eq];lia,(fun h=>by cases h),fun h=>by cases h⟩
   have R3:=R2.pushNew (o:=iM l t li h'.objs.size) (ao:=iG l li base.length)
    ⟨_,rfl,Heap.get?_push_size _ rfl,.cons (dS _) (.cons rfl (.cons rfl (.cons rfl (.cons rfl (.cons (cA d1) .nil)))))⟩
   have d2:=bV R2 ⟨(h'.push (sP kd b e)).objs.size,none⟩
   have d2:den ((ρ++[⟨h'.objs.size,none⟩])++[⟨(h'.push (sP kd b e)).objs.size,none⟩]) (.obj (base.length+1)) (.ref (h'.objs.size+1)):=by
    rw [Heap.size_push]at d2⊢
    simpa using d2
   have N2:Next x.L ρ {s with heap:=h',toks:=s.toks} ((ρ++[⟨h'.objs.size,none⟩])++[⟨(h'.push (sP kd b e)).objs.size,none⟩]) {s with heap:=(h'.push (sP kd b e)).push (iM l t li h'.objs.size),toks:=s.toks}:=(Next.pushNew (sP kd b e)).trans (Next.pushNew (iM l t li h'.objs.size))
   show wpP _ _ (letOwnedTupleGo (.Name "found" pp) (.ref ci) (.ref (h'.objs.size+1))) _ _ _
   rw [show letOwnedTupleGo (.Name "found" pp) (.ref ci) (.ref (h'.objs.size+1))=pure ()from rfl]
   refine aZ ?_
   show wpP _ _ (do standAt pp;bindName x.env "found" (.ref (h'.objs.size+1))) _ _ _
   refine aT (wpAny_standAt (fU ?_))
   refine(cI hx (by rw [aN];kernel_rfl) d2) _ _ _ R3 fun zz s₂ ρ₂ R₂ N₂ zz=> ?_
   have ob:base++[qK kd b e]++[iG l li base.length]=obW base l kd b e li:=by simp [obW]
   have R₂:Rel x.hb x.L x.fr ρ₂ ⟨dX l acc [nG base],obW base l kd b e li⟩ s₂:=by
    rw [←ob]
    exact R₂
   refine fU ((aP7 hP (by lia) hfr (by lia)) x hx ρ₂ s₂ _ _ R₂ fun fl s₃ ρ₃ R₃ N₃ hfl=> ?_)
   have:fl= .next:=hfl
   subst this
   have N4:=(N2.trans N₂).trans N₃
   refine aH (N4.ext) fun new q1_ zz=> ?_;subst q1_
   have N5:Next x.L ρ {s with heap:=h',toks:=s.toks} ρ s₃:=by
    have:=Next.forget (new:=[]) (ρ₂:=new) (ρ:=ρ) (by simpa using N4)
    simpa using this
   have R5:Rel x.hb x.L x.fr ρ ⟨dX l (acc++eB kd (cL l b e)) [],base⟩ s₃:=by
    refine Rel.forget (ρ₂:=new) (loc:=dX l (acc++eB kd (cL l b e)) []) (locm:=[nG base,("piece",S (cL l b e))]) (objs:=base) (more:=[qK kd b e,iG l li base.length]) ?_ RR.len (by rfl) hbase
    exact R₃
   have kept:∀{a:Addr} {o:Obj},h'.get? a=some o→Untold x ρ a→(∀es m,o.data≠ .dict es m)→s₃.heap.get? a=some o:=fun ha ua hn=>by
    refine aH (N5.keep _ _ ha ua.loc ua.obj) fun o' e' kp=> ?_
    rw [e',kp.same hn]
   have ew:bB l (f+1) p=eB kd (cL l b e)++bB l f e:=by
    show(match cJ (l.drop p) p with|some (k,b,e)=>eB k (cL l b e)++bB l f e|none=>[])=_
    rw [hfr]
   refine aLe hx hz hbase u1 u2 u3 n1 n2 f e (acc++eB kd (cL l b e)) s₃ R g3 (by lia) (by rw [List.length_append];lia) R5 (N1.next (fun c hcm=>(un c hcm).obj) N5) (kept hc1 u1 (by intro es m;exact nofun)) (kept hb1 u3 (by intro es m;exact nofun)) (kept q1 u2 (by intro es m;exact nofun)) fun s' R' N'=>kk s' ?_ N'
   rw [ew,←List.append_assoc]
   exact R'
end
end Mine
end
section
namespace Mine
noncomputable def TriP {α:Type} (x:Cx) (ρ:List OA) (st:AS) (t:Sem α) (st':AS) (post:List OA→α→Prop):Prop:=
 ∀(s:Shared) (Q:α→Shared→Prop),Rel x.hb x.L x.fr ρ st s→(∀a s' ρ',Rel x.hb x.L x.fr ρ' st' s'→Next x.L ρ s ρ' s'→post ρ' a→Q a s')→wpP (mx x) x.A t Q F0 s
section
variable {α β:Type} {x:Cx} {ρ:List OA} {st st₁ st₂:AS}
theorem TriP.of {t:Sem α} {p:List OA→α→Prop} (h:Tri x ρ st t st₁ p):TriP x ρ st t st₁ p:=fun s Q R k=>fU (h s Q F0 R k)
theorem TriP.bind {m:Sem α} {f:α→Sem β} {p:List OA→α→Prop} {q:List OA→β→Prop} (h:TriP x ρ st m st₁ p) (k:∀ρ₁ a,Ext ρ ρ₁→p ρ₁ a→TriP x ρ₁ st₁ (f a) st₂ q):TriP x ρ st (m>>=f) st₂ q:=
 fun s Q R kk=>aY (h s _ R fun a s₁ ρ₁ R₁ N₁ pa=>k ρ₁ a N₁.to pa s₁ Q R₁ fun b s₂ ρ₂ R₂ N₂ pb=>kk b s₂ ρ₂ R₂ (N₁.trans N₂) pb)
theorem TriP.pure {a:α} {p:List OA→α→Prop} (h:p ρ a):TriP x ρ st (Pure.pure a:Sem α) st p:=.of (Tri.pure h)
theorem TriP.standAt {pos:Pos} {f:Unit→Sem β} {q:List OA→β→Prop} (h:TriP x ρ st (f ()) st₁ q):TriP x ρ st (standAt pos>>=f) st₁ q:=fun s Q R k=>aT (wpAny_standAt (h s Q R k))
theorem TriP.holding {vs:List Value} {t:Sem α} {p:List OA→α→Prop} (h:TriP x ρ st t st₁ p):TriP x ρ st (PySem.holding vs t) st₁ p:=fun s Q R k=>dL (h s Q R k)
end
section
variable (K:Params→Frag)
noncomputable def jX (n:Nat) (sc:Scope) (e:Expr) (st:AS) (v:AV) (st':AS):Prop:=∀x:Cx,x.Ok K n sc→∀ρ,TriP x ρ st (eval e x.env) st' fun ρ' r=>den ρ' v r
noncomputable def aAg (n:Nat) (sc:Scope) (e:Stmt) (st:AS) (f:AFlow) (st':AS):Prop:=∀x:Cx,x.Ok K n sc→∀ρ,TriP x ρ st (exec e x.env) st' fun ρ' r=>fden ρ' f r
noncomputable def lL (n:Nat) (sc:Scope) (e:List Stmt) (st:AS) (f:AFlow) (st':AS):Prop:=∀x:Cx,x.Ok K n sc→∀ρ,TriP x ρ st (execs e x.env) st' fun ρ' r=>fden ρ' f r
noncomputable def yR (n:Nat) (f:Value) (args:List AV) (kws:List (Str×AV)) (objs:List AO) (v:AV) (objs':List AO):Prop:=
 ∀x:Cx,x.Run K n→∀loc ρ vs kvs,All2 (den ρ) args vs→cY ρ kws kvs→TriP x ρ ⟨loc,objs⟩ (call f vs kvs) ⟨loc,objs'⟩ fun ρ' r=>den ρ' v r
end
section
variable {K:Params→Frag} {n:Nat} {sc:Scope} {st st₁ st₂:AS}
theorem yI {s:List Stmt} {f:AFlow} (h:DoesB K n sc s st f st₁):lL K n sc s st f st₁:=fun x hx ρ=>.of (h x hx ρ)
theorem rI {s:Stmt} {r:List Stmt} {f:AFlow} (h:aAg K n sc s st .next st₁) (k:lL K n sc r st₁ f st₂):lL K n sc (s::r) st f st₂:=fun x hx ρ=>by
 rw [arm_execs_cons]
 refine(h x hx ρ).bind fun ρ₁ a e p=> ?_
 have:a= .next:=p
 subst this
 exact k x hx ρ₁
theorem mS {l r:List Stmt} {f:AFlow} (h:DoesB K n sc l st .next st₁) (k:lL K n sc r st₁ f st₂):lL K n sc (l++r) st f st₂:=fun x hx ρ=>by
 have key:∀(l:List Stmt),execs (l++r) x.env=(do match←execs l x.env with| .next=>execs r x.env|f=>pure f):=by
  intro l
  induction l with
  |nil=>rw [List.nil_append,arm_execs_nil];rfl
  |cons s l ih=>
   rw [List.cons_append,arm_execs_cons,arm_execs_cons,ih]
   show Sem.bind _ _=Sem.bind (Sem.bind _ _) _
   rw [Sem.bind_assoc]
   congr
   funext a
   cases a<;>rfl
 rw [key]
 refine(TriP.of (h x hx ρ)).bind fun ρ₁ a e p=> ?_
 have:a= .next:=p
 subst this
 exact k x hx ρ₁
end
theorem aLv {K:Params→Frag} {n:Nat} {f:Addr} {sc:Scope} {body:List Stmt} {fd:Params→FuncData} (F:Fn K f sc body fd) {args:List AV} {kws:List (Str×AV)} {loc loc':List (Str×AV)} {objs objs':List AO} {fl:AFlow} {v:AV}
  (hb:∀P ρ vs kvs,All2 (den ρ) args vs→cY ρ kws kvs→∃binds,(∀s:Shared,(K P).In s.heap→BindsTo s (fd P) ⟨vs,kvs⟩ binds)∧cY ρ loc binds)
  (hn:kV loc=true) (hl:(loc.all fun y=>decide (sc.names.lookup y.1=some .local))=true)
  (h:lL K n sc body ⟨loc,objs⟩ fl ⟨loc',objs'⟩) (hr:aBk fl=some v):yR K (n+1) (.ref f) args kws objs v objs':=by
 intro x hx cloc ρ vs kvs ha hk s Q R kk
 refine sL ?_
 refine vV (hx.glo.T) fun p loose mean mg mb T=> ?_
 have X:=hx.glo.X.keeps R.base
 refine aH (hb x.w.params ρ vs kvs ha hk) fun binds hbd hloc=> ?_
 refine aH (Option.map_eq_some_iff.mp (F.at_ x.w.params)) fun o ho hd=> ?_
 have hp:=F.plain
 have hsc:=F.scope x.w.params
 refine rM (zH hx) (X _ _ ho) hd (T.nolimit.keeps R.base) (codeRec_of X (F.code _)) (F.body _) (hbd s X) (by rw [hsc];exact hp.1) (by rw [hsc];exact hp.2.1) (by rw [hsc];exact hp.2.2.1) (by rw [hsc];exact hp.2.2.2) (fun y hy=>by rw [hsc];exact uF hloc hl y hy) fun h' hn' hk' hz'=> ?_
 refine h _ (pD F hx) ρ _ _ (qE F R hn' hk' (lS hloc hn)) fun fl' s' ρ' R2 N2 hfl=> ?_
 refine cK (pY R hk' R2 N2) fun Rr hN=> ?_
 exact kk _ s' ρ' Rr hN (aGa hfl hr)
end Mine
end
section
namespace Mine
theorem aMm {ρ:List OA} {k:Nat} {y:OA} {u:Value} {vs:List Value} (e:ρ[k]?=some y) (d:All2 (den ρ) [.val u,.obj k] vs):vs=[u,.ref y.a]:=
 fS d fun zz zz d1 d q1=>fS d fun zz zz d2 d q2=>fQ q1 d1 (fQ q2 (aEm e d2) (aH5 d))
theorem aMl {ρ:List OA} {k:Nat} {y:OA} {vs:List Value} (e:ρ[k]?=some y) (d:All2 (den ρ) [.obj k,.none,.bool false] vs):vs=[.ref y.a,.none,.bool false]:=
 fS d fun zz zz d1 d q1=>fS d fun zz zz d2 d q2=>fS d fun zz zz d3 d q3=>fQ q1 (aEm e d1) (fQ q2 d2 (fQ q3 d3 (aH5 d)))
theorem aMj {ρ:List OA} {l:List Nat} {a b c e:Value} {m:Bool} {vs:List Value} (d:All2 (den ρ) [.val a,S l,.val b,.val c,.val e,.bool m] vs):∃t,vs=[a,.str (mkS l) t,b,c,e,.bool m]:=
 fS d fun zz zz d1 d q1=>fS d fun zz zz d2 d q2=>fS d fun zz zz d3 d q3=>fS d fun zz zz d4 d q4=>fS d fun zz zz d5 d q5=>fS d fun zz zz d6 d q6=>cB d2.1 fun t e2=>⟨t,fQ q1 d1 (fQ q2 e2 (fQ q3 d3 (fQ q4 d4 (fQ q5 d5 (fQ q6 d6 (aH5 d))))))⟩
section
variable {K:Params→Frag} (hP:Prog2 K) {n:Nat} {base:List AO} {l:List Nat}
include hP
noncomputable def aJa:Stmt:=aC yM 1
noncomputable abbrev fP:Stmt→Expr:=stE
theorem aQ2 (hz:l.length<1000000):DoesE K (n+1) scW (fP aJa) ⟨dX l [] [],base⟩ (.obj (base.length+2)) ⟨dX l [] [],base++[kS l 0 false,bmO base.length,ciO (base.length+1)]⟩:=
 aI (m:=20) (td:=[.c (.obj (base.length+2)) (base++[kS l 0 false,bmO base.length,ciO (base.length+1)])])
  (obs:=[DoesCall K (n+1) (.ref 764) [S l] [] base (.obj (base.length+2)) (base++[kS l 0 false,bmO base.length,ciO (base.length+1)])]) hP.tab (by kernel_rfl) (aA (wP hP hz) all_nil)
theorem aJ4 (a b c:AO):(base++[a,b,c])[base.length]?=some a∧(base++[a,b,c])[base.length+1]?=some b∧(base++[a,b,c])[base.length+2]?=some c:=by
 refine⟨?_, ?_, ?_⟩<;>simp
theorem aRn (hz:l.length<50000) (hbase:base.all (AO.below base.length)=true):aAg K (n+1) scW aJa ⟨dX l [] [],base⟩ .next ⟨dX l (bB l (l.length+1) 0) [],base⟩:=by
 have q:∃p1 p2,aJa= .For (.Name "found" p1) (fP aJa) fM [] p2:=⟨_,_,rfl⟩
 refine iK q fun p1 p2 q=> ?_
 intro x hx ρ s Q R kk
 rw [q,exec_For]
 refine aT (wpAny_standAt (aT ((aQ2 hP (by lia)) x hx ρ s _ _ R fun u s₁ ρ₁ R₁ N₁ d=> ?_)))
 have hs:foldedSetIterable (fP aJa) x.env u=pure u:=rfl
 rw [hs]
 refine aY (aZ (aT (wpAny_standAt ?_)))
 refine aF fun gq hgq=> ?_
 refine rS (aJ4 hP (base:=base) (kS l 0 false) (bmO base.length) (ciO (base.length+1))) fun g0 g1 g2=> ?_
 refine aH (R₁.objs _ _ g0) fun y0 e0 w0=> ?_
 refine aH (R₁.objs _ _ g1) fun y1 e1 w1=> ?_
 refine aH (R₁.objs _ _ g2) fun y2 e2 w2=> ?_
 obtain⟨vs0,_,h0,d0⟩:=w0
 obtain⟨vs1,_,h1,d1⟩:=w1
 obtain⟨vs2,_,h2,d2⟩:=w2
 refine aH d fun z ez q2_=> ?_;subst q2_
 rw [e2]at ez
 obtain rfl:=Option.some.inj ez
 obtain⟨t,rfl⟩:=aMj d0
 obtain rfl:=aMm e0 d1
 obtain rfl:=aMl e1 d2
 refine aH (N₁.ext) fun new q1_ hnew=> ?_;subst q1_
 subst hgq
 have m0:y0.a∈aS (ρ++new):=List.mem_flatMap.mpr ⟨y0,List.mem_of_getElem? e0,.head _⟩
 have m1:y1.a∈aS (ρ++new):=List.mem_flatMap.mpr ⟨y1,List.mem_of_getElem? e1,.head _⟩
 have m2:y2.a∈aS (ρ++new):=List.mem_flatMap.mpr ⟨y2,List.mem_of_getElem? e2,.head _⟩
 have hl:ρ.length=base.length:=R.len
 have inNew:∀{y:OA} {k:Nat},(ρ++new)[k]?=some y→base.length≤k→y.a∈aS new:=fun e hk=>by
  rw [List.getElem?_append_right (by lia)]at e
  exact List.mem_flatMap.mpr ⟨_,List.mem_of_getElem? e,.head _⟩
 have notOld:∀{a:Addr},a∈aS new→a∉aS ρ:=fun ha hb=>by
  have:=(List.nodup_cons.mp R₁.apart).2
  rw [aL]at this
  exact(List.nodup_append.mp this).2.2 _ hb _ ha rfl
 have ut:∀{y:OA} {k:Nat},(ρ++new)[k]?=some y→base.length≤k→Untold x ρ y.a:=fun e hk=>
  ⟨R₁.new _ (List.mem_flatMap.mpr ⟨_,List.mem_of_getElem? e,.head _⟩),fun q=>(List.nodup_cons.mp R₁.apart).1 (q▸List.mem_flatMap.mpr ⟨_,List.mem_of_getElem? e,.head _⟩),notOld (inNew e hk)⟩
 have u0:=ut e0 (Nat.le_refl _)
 have u1:=ut e1 (by lia)
 have u2:=ut e2 (by lia)
 have nd:=(List.nodup_cons.mp R₁.apart).2
 have n1:y2.a≠y0.a:=fun q=>mD nd e2 e0 (by lia) (.head _) (by rw [q];exact .head _)
 have n2:y1.a≠y0.a:=fun q=>mD nd e1 e0 (by lia) (.head _) (by rw [q];exact .head _)
 have fresh:∀{y:OA} {k:Nat},(ρ++new)[k]?=some y→base.length≤k→s.heap.get? y.a=none:=fun e hk=>by
  cases z:s.heap.get? _ with
  |none=>rfl
  |some o=>
   rcases hnew _ (inNew e hk) o z with w|w
   ·exact absurd w (ut e hk).loc
   ·exact absurd w (ut e hk).obj
 have RB:Rel x.hb x.L x.fr ρ ⟨dX l [] [],base⟩ s₁:=by
  refine Rel.forget (ρ₂:=new) (loc:=dX l [] []) (locm:=[]) (objs:=base) (more:=[kS l 0 false,bmO base.length,ciO (base.length+1)]) ?_ hl (by rfl) hbase
  rw [List.append_nil]
  exact R₁
 have NB:Next x.L ρ s ρ s₁:=by
  have:=Next.forget (new:=[]) (ρ₂:=new) (ρ:=ρ) (by simpa using N₁)
  simpa using this
 refine aT (wpAny_holding (to1 (aO2 h2 ?_)))
 refine aDe (aLe hP hx hz hbase u2 u0 u1 n1 n2 (l.length+1) 0 [] s₁ _ (Nat.zero_le _) (by lia) (by simp;lia) RB (NextX.refl _ _ _ _) h2 h1 h0 fun s' R' N'=> ?_)
 refine kk _ s' ρ R' (N'.close NB fun b hb=> ?_) rfl
 rcases List.mem_cons.mp hb with rfl|hb
 ·exact fresh e2 (by lia)
 ·have:b=y0.a:=by simpa using hb
  subst this
  exact fresh e0 (Nat.le_refl _)
theorem aAa (hz:l.length<50000) (hbase:base.all (AO.below base.length)=true):yR K (n+2) (.ref 778) [S l] [] base (S (bB l (l.length+1) 0)) base:=by
 refine aLv hP.f778.fn (hb1 hP.b778) (by kernel_rfl) (bI (by kernel_rfl)) (fl:=.ret (S (bB l (l.length+1) 0))) (loc':=dX l (bB l (l.length+1) 0) []) ?_ rfl
 have q:aO (aC aR 30)=[aC yM 0,aJa,aC yM 2]:=by kernel_rfl
 rw [q]
 have first:DoesB K (n+1) scW [aC yM 0] ⟨[("pattern",S l)],base⟩ .next ⟨dX l [] [],base⟩:=
  DoesB.post (st₁:=⟨[("pattern",S l),("told",.str "")],base⟩) (aB (m:=20) (k:=20) (td:=[]) (obs:=[]) hP.tab (by kernel_rfl) all_nil)
   ⟨.cons ⟨rfl,AVle.refl _⟩ (.cons ⟨rfl,dJ (by rfl)⟩ .nil),bG AOle.refl _⟩
 have last:DoesB K (n+1) scW [aC yM 2] ⟨dX l (bB l (l.length+1) 0) [],base⟩ (.ret (S (bB l (l.length+1) 0))) ⟨dX l (bB l (l.length+1) 0) [],base⟩:=
  aB (m:=20) (k:=20) (td:=[]) (obs:=[]) hP.tab (by kernel_rfl) all_nil
 exact mS first (rI (aRn hP hz hbase) (yI last))
end
end Mine
end
section
namespace Mine
noncomputable def DoesRP (K:Params→Frag) (n:Nat) (sc:Scope) (rest:pO) (ka:Nat) (st st':AS):Prop:=∀x:Cx,x.Ok K n sc→∀ρ acc k (s:Shared) (Q:Fin→Shared→Prop),den ρ (.obj ka) acc→Rel x.hb x.L x.fr ρ st s→
 (∀s' ρ',Rel x.hb x.L x.fr ρ' st' s'→Next x.L ρ s ρ' s'→wpP (mx x) x.A k Q F0 s')→wpP (mx x) x.A (rest acc x.env k) Q F0 s
inductive CTurnsP (K:Params→Frag) (n:Nat) (sc:Scope) (y:Str) (rest:pO) (ka:Nat) (good:AS→Prop):List AV→AS→AS→Prop
 |nil {st}:CTurnsP K n sc y rest ka good [] st st
 |cons {a as st st₁ st₂}:DoesRP K n sc rest ka ⟨put y a st.loc,st.objs⟩ st₁→good st₁→CTurnsP K n sc y rest ka good as st₁ st₂→CTurnsP K n sc y rest ka good (a::as) st st₂
section
variable {K:Params→Frag} {n:Nat} {sc:Scope} {y:Str} {good:AS→Prop} {iter elt:Expr} {gens:List Comprehension} {cpos:Pos} {v:AV} {st st₁ st₂:AS} {as:List AV} {p pos q:Pos} {depth ka:Nat} {rest:pO}
theorem aCy {x:Cx} {cs:Scope} (hx:x.Ok K n sc) (hk:sc.names.lookup y=some .local) (heq:eD (.ListComp elt gens cs cpos) depth y q p rest)
  {it:Value} {is:List Addr} {J:List AV→List OA→Shared→Prop} (I:Iter x it is good J) {as:List AV} {st st':AS} (T:CTurnsP K n sc y rest ka good as st st') {acc:Value}:
  ∀{ρ₀ ρ:List OA} {s₀ s:Shared} {R:Result→Shared→Prop},Rel x.hb x.L x.fr ρ st s→NextX is x.L ρ₀ s₀ ρ s→good st→J as ρ s→den ρ (.obj ka) acc→
   (∀s' ρ',Rel x.hb x.L x.fr ρ' st' s'→NextX is x.L ρ₀ s₀ ρ' s'→Ext ρ ρ'→R (.ok .next) s')→dF (mx x) x.A (.compLoop (.ListComp elt gens cs cpos) depth it acc x.env) R s:=by
 have TP:∀ρ₀ s₀,vT is (NextX is x.L ρ₀ s₀):=fun ρ₀ s₀ ρ s h' t N h=>N.touch h t
 induction T with
 |nil=>
  intro ρ₀ ρ s₀ s R RR N hg hJ da kk
  refine kG heq (fU (I.stop _ _ _ _ _ _ (TP ρ₀ s₀) RR N hg hJ fun s' R' N'=> ?_))
  exact kk s' _ R' N' (.refl _)
 | @cons a as st st₁ st₂ hb hgood T ih=>
  intro ρ₀ ρ s₀ s R RR N hg hJ da kk
  refine kG heq (fU (I.step _ _ _ _ _ _ _ _ (TP ρ₀ s₀) RR N hg hJ fun v s' R' N' d hJ'=> ?_))
  refine fU ((cI hx hk d) s' _ _ R' fun zz s₂ ρ₂ R₂ N₂ zz=> ?_)
  refine hb x hx ρ₂ acc _ s₂ _ (N₂.den da) R₂ fun s₃ ρ₃ R₃ N₃=> ?_
  have N23:=N₂.trans N₃
  have hJ3:=I.keep _ _ _ _ _ hJ' N23
  exact aZ ⟨rfl,ih R₃ (N'.next (I.un _ _ _ hJ3) N23) hgood hJ3 (N23.den da) fun s' ρ' R' N' x=>kk s' ρ' R' N' (N23.to.trans x)⟩
theorem aCz {x:Cx} (hx:x.Ok K n sc) {cs:Scope} (hc:iL cs=true) (hk:cs.names.lookup y=some .local) (heq:eD (.ListComp elt gens cs cpos) 0 y q p rest)
  (hcl:gens[0]?.elim false (·.is_async !=0)=false)
  (hi:hO K n v as st₁ good) (hgo:good ⟨[],st₁.objs++[.list []]⟩) (T:CTurnsP K n cs y rest st₁.objs.length good as ⟨[],st₁.objs++[.list []]⟩ st₂)
  {ρ₁:List OA} {u:Value} {s₁:Shared} {RR:Value→Env→Result→Shared→Prop} (R₁:Rel x.hb x.L x.fr ρ₁ st₁ s₁) (d:den ρ₁ v u)
  (kk:∀C acc s' ρ' m,s'.heap.Ns C m→den ρ' (.obj st₁.objs.length) acc→Rel x.hb C x.fr ρ' st₂ s'→(∀h'',Heap.SameBut C s'.heap h''→Rel x.hb x.L x.fr ρ' ⟨st₁.loc,st₂.objs⟩ {s' with heap:=h''}∧Next x.L ρ₁ s₁ ρ' {s' with heap:=h''})→
   C≠x.L→Untold x ρ' C→(∀env∈x.fr,env.frame≠some C)→s₁.heap.get? C=none→RR acc (jT x cs C).env (.ok .next) s'):
  wpAny (mx x) x.A (pyIter u) (fun it s₂=>wpAny (mx x) x.A (newList []) (fun acc s₃=>wpAny (mx x) x.A (newFunctionEnv cs x.env.globals [] [] x.env.qual none .none (some x.env)) (fun cenv s₄=>
    dF (mx x) x.A (.compStart (.ListComp elt gens cs cpos) 0 it acc {cenv with scope:=cs}) (RR acc {cenv with scope:=cs}) s₄) F0 s₃) F0 s₂) F0 s₁:=by
 refine vD (Post:=fun it acc cenv s=>dF (mx x) x.A (.compStart (.ListComp elt gens cs cpos) 0 it acc cenv) (RR acc cenv) s) hx hc hi R₁ d fun it is J C acc ρ₄ s₄ I hJ0 RC dacc fin=> ?_
 have run:=aCy (x:=jT x cs C) (yJ hx hc) hk heq I T RC (.refl ..) hgo hJ0 dacc fun s' ρ' R' N' ex=>aQq (fin s' ρ' st₂ R' N' ex) fun m a b c d e f g=>kk C acc s' ρ' m a b R' c d e f g
 exact qG hcl run (I.again _ _ _ _ _ hJ0 run)
theorem aAk {N:Ctx→Prop} {M:Model} {A:Around} {E:Value→Shared→Prop} {s:Shared} {α:Type} {c:Prop} [Decidable c] {pos:Pos} {k:PUnit→Sem α} {Q:α→Shared→Prop} (h:wpQ N M A (k ()) Q E s):
  wpQ N M A (if c then(standAt pos>>=k)else k ()) Q E s:=by
 split
 ·exact aT (wpAny_standAt h)
 ·exact h
theorem oA {M:Model} {A:Around} {s:Shared} {env:Env} {e:Expr} {scope:Scope} {pos:Pos} {newAcc first:Sem Value} {g:Comprehension} {gs:List Comprehension} {Q:Value→Shared→Prop}
  (hcl:clausesOf e=g::gs) (hs:∀x,foldedSetIterable g.iter env x=pure x)
  (hfree:∀x∈scope.names,x.2≠ .free) (hkind:scope.kind= .function) (hnames:∀x∈scope.names,x.2= .local→scope.names.lookup x.1=some .local)
  (h:wpAny M A first (fun x s₁=>wpAny M A (pyIter x) (fun it s₂=>wpAny M A newAcc (fun acc s₃=>
   wpAny M A (newFunctionEnv scope env.globals [] [] env.qual none .none (some env)) (fun cenv s₄=>
    dF M A (.compStart e 0 it acc {cenv with scope:=scope}) (fun r s'=>∃m,s'.heap.Ns cenv.locals m∧∀h',Heap.SameBut cenv.locals s'.heap h'→
     match r with| .ok _=>Q acc {s' with heap:=h'}| .error x=>False) s₄) F0 s₃) F0 s₂) F0 s₁) F0 s):
  wpP M A (comprehension e scope env pos newAcc false first) Q F0 s:=by
 unfold comprehension
 rw [closureFor_none hfree,hcl]
 refine aT (wpAny_mono h (fun x s₁ h₁=>aT (wpAny_standAt (aT (wpAny_of_eq (hs x) (aT (wpAny_holding (wpAny_mono h₁ (fun it s₂ h₂=>
  aAk (aT (wpAny_mono h₂ (fun acc s₃ h₃=>aY (aZ (aT (wpAny_mono h₃ (fun cenv s₄ h₄=> ?_) fun zz zz h'=>h')))) fun zz zz h'=>h')))
   fun zz zz h'=>h'))))))) fun zz zz h'=>h')
 dsimp only
 rw [map_eq_self (l:=scope.names) (fun x hx=>by
  obtain⟨n,k⟩:=x
  have:(k==NameKind.free)=false:=by simpa using hfree _ hx
  simp [this])]
 have hv:∀x∈(scope.names.filter fun x=>(x.2== .local||x.2== .cell)&&x.1 !=(".0":Str)).reverse,x.2= .local→
   Env.kindOf {cenv with scope:=scope} x.1=some .local:=fun x hx hl=>hnames x (List.mem_filter.mp (List.mem_reverse.mp hx)).1 hl
 refine dL (aY (qJ (dL (aFt (aFk h₄ fun r s' hr=> ?_)))))
 refine aH hr fun m hn hr=> ?_
 cases r with
 |ok f=>exact aT (wpAny_holding (wpAny_comp_letGo (cenv:={cenv with scope:=scope}) hkind _ s' m hv hn fun h' m' zz hs'=>aZ (hr h' hs')))
 |error x=>exact(hr s'.heap (Heap.SameBut.refl ..)).elim
theorem aCr {gs:List Comprehension} {cs:Scope} (hc:iL cs=true) (hk:cs.names.lookup y=some .local) (hs:∀env x,foldedSetIterable iter env x=pure x)
  (heq:eD (.ListComp elt (⟨.Name y q,iter,[],0⟩::gs) cs cpos) 0 y q p rest) (h:DoesE K n sc iter st v st₁) (hi:hO K n v as st₁ good) (hgo:good ⟨[],st₁.objs++[.list []]⟩)
  (T:CTurnsP K n cs y rest st₁.objs.length good as ⟨[],st₁.objs++[.list []]⟩ st₂):jX K n sc (.ListComp elt (⟨.Name y q,iter,[],0⟩::gs) cs cpos) st (.obj st₁.objs.length) ⟨st₁.loc,st₂.objs⟩:=by
 intro x hx ρ s Q R kk
 refine vW (gM hc) fun c1 c2 c3 c4=> ?_
 rw [eval_ListComp]
 refine oA rfl (hs x.env) c3 c1 c4 (h x hx ρ s _ _ R fun u s₁ ρ₁ R₁ N₁ d=> ?_)
 refine aCz (RR:=fun acc cenv r s'=>∃m,s'.heap.Ns cenv.locals m∧∀h',Heap.SameBut cenv.locals s'.heap h'→
   match r with| .ok _=>Q acc {s' with heap:=h'}| .error x=>False) hx hc hk heq rfl hi hgo T R₁ d ?_
 intro C acc s' ρ' m hm da R' hl hCL hU hF hC1
 refine⟨m,hm,fun h' hs'=> ?_⟩
 refine cK (hl h' hs') fun B N=> ?_
 exact kk acc _ ρ' B (N₁.trans N) da
theorem aLt {b:AV} {xs:List AV} (h:jX K n sc elt st b st₁) (ho:st₁.objs[ka]?=some (.list xs)) (hz:xs.length≤sizeLine):DoesRP K n sc (oP elt) ka st ⟨st₁.loc,st₁.objs.set ka (.list (xs++[b]))⟩:=by
 intro x hx ρ acc k s Q da R kk
 unfold oP
 refine aY (aY (h x hx ρ s _ R fun v s₁ ρ₁ R₁ N₁ d=> ?_))
 have ca:=dV (K:=K) (n:=n) (a:=b) ho hz
 refine aT (ca x hx.toRun st₁.loc ρ₁ [acc,v] [] (.cons (N₁.den da) (.cons d .nil)) .nil s₁ _ _ R₁ fun r s₂ ρ₂ R₂ N₂ zz=> ?_)
 exact aZ (kk s₂ ρ₂ R₂ (N₁.trans N₂))
theorem DoesRP.forget {loc locm:List (Str×AV)} {objs more:List AO} (h:DoesRP K n sc rest ka st ⟨loc++locm,objs++more⟩) (hz:st.objs.length≤objs.length)
  (h1:(loc.all fun f=>f.2.below objs.length)=true) (h2:objs.all (AO.below objs.length)=true):DoesRP K n sc rest ka st ⟨loc,objs⟩:=by
 intro x hx ρ acc k s Q da R kk
 refine h x hx ρ acc k s Q da R fun s' ρ' R' N'=> ?_
 refine aH (N'.ext) fun new q1_ hx=> ?_;subst q1_
 have l1:ρ.length=st.objs.length:=R.len
 have l2:(ρ++new).length=(objs++more).length:=R'.len
 have hsp:new=new.take (objs.length - ρ.length)++new.drop (objs.length - ρ.length):=(List.take_append_drop _ _).symm
 have hlen:(ρ++new.take (objs.length - ρ.length)).length=objs.length:=by
  simp only [List.length_append,List.length_take]at l2⊢
  lia
 rw [hsp,←List.append_assoc]at R'
 rw [hsp]at N'
 exact kk s' _ (R'.forget hlen h1 h2) N'.forget
theorem rJ {base:List AO} (f:AV→List AV) (hgood:∀acc:List AV,good ⟨[],base++[.list acc]⟩):
  ∀(as:List AV) (done:List AV),(∀pre a suf,as=pre++a::suf→DoesRP K n sc rest base.length ⟨[(y,a)],base++[.list (done++pre.flatMap f)]⟩ ⟨[],base++[.list (done++pre.flatMap f++f a)]⟩)→
   CTurnsP K n sc y rest base.length good as ⟨[],base++[.list done]⟩ ⟨[],base++[.list (done++as.flatMap f)]⟩
 |[],done,_=>by simp only [List.flatMap_nil,List.append_nil];exact .nil
 |a::as,done,h=>by
  have h0:=h [] a as rfl
  simp only [List.flatMap_nil,List.append_nil]at h0
  have h1:=rJ f hgood as (done++f a) fun pre b suf e=>by
   have:=h (a::pre) b suf (by rw [e];rfl)
   simpa only [List.flatMap_cons,List.append_assoc]using this
  simp only [List.flatMap_cons,←List.append_assoc]
  exact .cons h0 (hgood _) h1
end
end Mine
end
section
namespace Mine
section
variable {M:Model} {A:Around} {s:Shared} {N:Ctx→Prop}
theorem aJz {α:Type} {E:Value→Shared→Prop} {vs:List Value} {m:Sem α} {Q:α→Shared→Prop} (h:wpQ N M A m Q E s):wpQ N M A (m.keep vs) Q E s:=
 fun Γ p hΓ hN=>by rw [Sem.wp_keep];exact h Γ p hΓ hN
theorem aAb {P:Heap→Prop} {pos:Pos} {f:Value} {first:List Value} {Q:Value→Shared→Prop} {args:List (Bool×Sem Value)} {keywords:List (Option Str×Sem Value)} (hplain:(args.any (·.1)||keywords.any (·.1.isNone))=false)
  (hk:∀h,P h→∃k,(k=Keeper.frame∨k=Keeper.machine∨k=Keeper.boundFrame)∧Looks M h (keeperOf f) k)
  (h:wpP M A (evalArgs f true args keywords) (fun a s₁=>P s₁.heap∧wpP M A (call f (first++a.pos) a.kw) Q F0 s₁) F0 s):wpP M A (callWith pos f first args keywords) Q F0 s:=by
 unfold callWith
 refine aY (dL (cQ h (fun a s₁ h₁=>aT (wpAny_standAt ?_)) fun zz zz x=>x))
 refine aH (hk _ h₁.1) fun k hk' L=> ?_
 simp only [hplain]
 refine aT (L.here ?_)
 have tail:∀{t:Sem Value},wpP M A t Q F0 s₁→wpP M A (t>>=fun r=>holding [r] point>>=fun zz=>pure r) Q F0 s₁:=
  fun ht=>aY (cQ ht (fun r s₂ hr=>aT (wpAny_holding (wpAny_point (aZ hr)))) fun zz zz x=>x)
 have marked (mk:Value):wpP M A (callMarked mk f (first++a.pos) a.kw) Q F0 s₁:=by unfold callMarked;exact aJz h₁.2
 rcases hk' with rfl|rfl|rfl<;>dsimp only<;>first|exact tail h₁.2|(split<;>first|exact tail h₁.2|exact tail (marked _))
theorem zF {x:Sem Value} {Q:List Value→Shared→Prop} (h:wpP M A x (fun v s₁=>Q [v] s₁) F0 s):wpP M A (spliced [(false,x)]) Q F0 s:=by
 rw [spliced]
 refine aY (cQ h (fun v s₁ h₁=> ?_) fun zz zz x=>x)
 simp only [Bool.false_eq_true,if_false]
 exact aY (aZ (aY (dL (aZ (aZ h₁)))))
end
section
variable {K:Params→Frag} {n:Nat} {sc:Scope} {x:Cx} {ρ:List OA} {st st₁ st₂:AS} {a:AV} {e:Expr}
theorem sQ {f:Value} {first:List Value} {pos pos':Pos} {q:List OA→Value→Prop} (hx:x.Ok K n sc) (hf:iN (K x.w.params) f=true) (he:isStarred e=false) (h:jX K n sc e st a st₁)
  (k:∀ρ v,den ρ a v→TriP x ρ st₁ (call f (first++[v]) []) st₂ q):TriP x ρ st (callWith pos f first (backTo pos' (starEach [e] x.env)) (backToKw pos' (keywordEach [] x.env))) st₂ q:=by
 intro s Q R kk
 have pl:∀ps:Pos,backTo ps (starEach [e] x.env)=[(false,eval e x.env)]:=fun ps=>by rw [bU he];rfl
 rw [pl]
 refine aAb (P:=fun h=>(K x.w.params).In h) rfl (fun h X=>dB hf X) ?_
 unfold evalArgs
 refine aY ?_
 show wpP _ _ (spliced [(false,eval e x.env)]) _ _ _
 refine zF (h x hx ρ s _ R fun w s₁ ρ₂ R₂ N₂ dw=> ?_)
 refine aY (aZ (dL (aZ ⟨hx.glo.X.keeps R₂.base, ?_⟩)))
 exact k ρ₂ w dw s₁ _ R₂ fun r s₂ ρ₃ R₃ N₃ qr=>kk r s₂ ρ₃ R₃ (N₂.trans N₃) qr
theorem aDp {y:Str} {p:Pos} {pos:Pos} {u:Value} {q:List OA→Value→Prop} (ht:TabOk K mZ) (hx:x.Ok K n sc) (hn:aBx mZ sc y=some u) (he:isStarred e=false) (h:jX K n sc e st a st₁)
  (k:∀ρ v,den ρ a v→TriP x ρ st₁ (call u [v] []) st₂ q):TriP x ρ st (eval (.Call (.Name y p) [e] [] pos) x.env) st₂ q:=by
 refine cK (zP hn) fun q1 q2=> ?_
 rw [arm_eval_Call_Name']
 have hn:=kQ (x:=x) (ρ:=ρ) (y:=y) (pos:=p) ht hx
 rw [q1]at hn
 refine(TriP.of (hn st [] (.val u) st [] [] rfl (fun zz h=>nomatch h))).bind fun ρ₁ v ex d=> ?_
 have:v=u:=d
 subst this
 exact sQ hx (ht.glb _ _ q2 x.w.params).2 he h k
theorem wK {o:Expr} {name:Str} {id:String} {y:Str} {apos pos:Pos} {v:AV} {objs':List AO} (hp:dG o=true) (hln:Nat.beq apos.endLine pos.line=true) (he:isStarred e=false)
  (hm:hM "str" name id) (h:DoesE K n sc o st (.str y) st₁) (h2:jX K n sc e st₁ a st₂) (hc:DoesCall K n (.builtin id) [.str y,a] [] st₂.objs v objs'):
  jX K n sc (.Call (.Attribute o name apos) [e] [] pos) st v ⟨st₂.loc,objs'⟩:=by
 intro x hx ρ s Q R kk
 rw [arm_eval_Call,hK hp]
 refine aT (h x hx ρ s _ _ R fun u s₁ ρ₁ R₁ N₁ d=> ?_)
 have d':=d
 obtain⟨⟨t,rfl⟩,_⟩:=d
 refine aT (wpAny_standAt ?_)
 have pl:∀ps:Pos,backTo ps (starEach [e] x.env)=[(false,eval e x.env)]:=fun ps=>by rw [bU he];rfl
 have hf:methodCallForm 1 (backTo pos (starEach [e] x.env)) (backToKw pos (keywordEach [] x.env))=true:=by rw [pl];rfl
 unfold methodCall
 rw [show([e].length+([]:List Keyword).length)=1 from rfl,hf]
 have hpos:methodCallPos true o x.env apos pos=pure pos:=by
  unfold methodCallPos
  have:(apos.endLine==pos.line)=true:=by simpa using Nat.eq_of_beq_eq_true hln
  rw [this];rfl
 rw [hpos]
 refine aT (wpAny_holding (jG (ρ:=ρ₁) (st:=st₁) (K:=K x.w.params) hm s₁ _ _ R₁ fun r s₂ ρ₂ R₂ N₂ hr=> ?_))
 refine cK hr fun q0_ hk=> ?_;subst q0_
 show wpP _ _ (callWith pos (.builtin id) [.str y t] _ _) _ _ _
 refine sQ (first:=[.str y t]) hx hk he h2 (q:=fun ρ' r=>den ρ' v r) (fun ρ₃ u du=> ?_) s₂ _ R₂ fun r s₃ ρ₃ R₃ N₃ dr=>kk r s₃ ρ₃ R₃ ((N₁.trans N₂).trans N₃) dr
 exact TriP.of (hc x hx.toRun st₂.loc ρ₃ [.str y t,u] [] (.cons d' (.cons du .nil)) .nil)
theorem wH {y:Str} {yp pos:Pos} {v:AV} (hc:dY e=false) (hk:sc.names.lookup y=some .local) (h:jX K n sc e st v st₁):aAg K n sc (.Assign [.Name y yp] e pos) st .next ⟨put y v st₁.loc,st₁.objs⟩:=by
 intro x hx ρ
 rw [arm_exec_Assign]
 refine TriP.standAt ?_
 show TriP x ρ st (swapsWith e (some (.Name y yp)) pos.line x.env>>=_) _ _
 rw [gT hc,pR (by intros;exact nofun) (by intros;exact nofun)]
 show TriP x ρ st (eval e x.env>>=fun v=>(do assignAll v [assign (.Name y yp) x.env];pure Flow.next)) _ _
 refine(h x hx ρ).bind fun ρ₁ u ex d=> ?_
 show TriP x ρ₁ st₁ ((do assign (.Name y yp) x.env u)>>=fun zz=>pure Flow.next) _ _
 rw [arm_assign_Name]
 exact TriP.of (Tri.bind (p:=fun zz zz=>True) (Tri.standAt (cI hx hk d)) fun zz zz zz zz=>Tri.pure rfl)
end
noncomputable def scL:Scope:=bC (aC aR 34)
noncomputable def eJ:List Stmt:=aO (aC aR 34)
noncomputable abbrev aSw:Expr→Expr:=kE 1
noncomputable def aRh:Expr:=wX (aC eJ 1)
noncomputable def jB:Expr:=aSw aRh
noncomputable abbrev nI:Expr→Expr:=kE 0
noncomputable def csE:Expr→Scope
 | .ListComp _ _ s _=>s
 |_=>default
noncomputable def wrt (l:List Nat):List Nat:=bB l (l.length+1) 0
section
variable {K:Params→Frag} (hP:Prog2 K) {n:Nat} {base:List AO} {l:List Nat} {ps:List (List Nat)} {kp:Nat}
include hP
theorem aRt {more:List AO} (hz:l.length<50000) (hb:more.all (AO.below more.length)=true):jX K (n+2) (csE jB) (nI jB) ⟨[("pattern",S l)],more⟩ (S (wrt l)) ⟨[("pattern",S l)],more⟩:=by
 have q:∃p1 p2 p3,nI jB= .Call (.Name "_law_written" p1) [.Name "pattern" p2] [] p3:=⟨_,_,_,rfl⟩
 refine aH9 q fun p1 p2 p3 q=> ?_
 rw [q]
 intro x hx ρ
 refine aDp (u:=.ref 778) (st₁:=⟨[("pattern",S l)],more⟩) (a:=S l) hP.tab hx (by kernel_rfl) rfl (fun x hx ρ=>.of (aI (m:=3) (td:=[]) (obs:=[]) hP.tab (by kernel_rfl) all_nil x hx ρ)) fun ρ v d=> ?_
 exact aAa hP hz hb x hx.toRun _ ρ [v] [] (.cons d .nil) .nil
end
end Mine
end
section
namespace Mine
noncomputable def scM:Scope:=bC (aC aR 32)
noncomputable def bodyM:List Stmt:=aO (aC aR 32)
noncomputable def sO:List Stmt:=aO (aC bodyM 1)
noncomputable def mO (q:List Nat):Nat:=match dW 10 q with
 |some i=>i+1
 |none=>0
noncomputable def bE (q:List Nat):Int:=bJ 91 q (mO q)
noncomputable def aW (q:List Nat):List Nat:=if bE q<0 then aQ 91 [] q++[93]else aQ 91 [] (q.take (bE q).toNat)++57344::(q.drop ((bE q).toNat+1)++[57345])
noncomputable def qY (q:List Nat):List Nat:=if bJ 91 q 0<0 then q else q.take (bJ 91 q 0).toNat++57344::q.drop ((bJ 91 q 0).toNat+1)
noncomputable def cN (l acc:List Nat) (more:List (Str×AV)):List (Str×AV):=("pattern",S l)::("stretches",.obj 0)::("told",S acc)::more
noncomputable abbrev aM7:Stmt→Expr:=stE
noncomputable abbrev aJr:Expr→Expr:=kE 0
noncomputable def aKz:Expr:=aJr (aM7 (aC (aO (aC sO 1)) 0))
noncomputable def aGc:Expr:=aJr (aJr (aJr (aM7 (aC (orW (aC sO 1)) 0))))
theorem aCj (c:Nat):∀(l:List Nat) (p:Nat),∀i∈bO c l p,p≤i∧i<p+l.length
 |[],p,i,h=>by simp [bO]at h
 |d::l,p,i,h=>by
  unfold bO at h
  have ih:=aCj c l (p+1)
  rw [List.length_cons]
  split at h
  ·rcases List.mem_cons.mp h with rfl|h
   ·lia
   ·have:=ih i h;lia
  ·have:=ih i h;lia
theorem iH {c:Nat} {q:List Nat} {k:Nat} (h:¬bJ c q k<0):(bJ c q k).toNat<q.length∧bJ c q k=((bJ c q k).toNat:Int):=by
 unfold bJ at*
 cases e:bO c (q.drop k) k with
 |nil=>rw [e]at h;simp at h
 |cons i r=>
  rw [e]at h
  have:=aCj c (q.drop k) k i (by rw [e];exact .head _)
  rw [List.length_drop]at this
  simp only
  omega
section
variable {K:Params→Frag} (hP:Prog2 K) {n:Nat} {objs:List AO} {l acc q:List Nat} {p:Int}
include hP
theorem aNc {more:List (Str×AV)} (hz:q.length<100000):DoesE K n scM aKz ⟨cN l acc (("stretch",S q)::more),objs⟩ (S (aQ 91 [] q)) ⟨cN l acc (("stretch",S q)::more),objs⟩:=by
 have e:∃p1 p2 p3 p4 p5 k1 k2,aKz= .Call (.Attribute (.Name "stretch" p1) "replace" p2) [.Constant (.str "[") k1 p3,.Constant (.str (mkS [])) k2 p4] [] p5∧Nat.beq p2.endLine p5.line=true:=⟨_,_,_,_,_,_,_,rfl,by kernel_rfl⟩
 refine aF fun gq hgq=> ?_
 refine aQn e fun p1 p2 p3 p4 p5 k1 k2 e hb=> ?_
 subst hgq
 rw [e]
 exact eA (c:=91) (l:=q) (a:=S q) hP.tab rfl rfl rfl hb (aI (m:=3) (td:=[]) (obs:=[]) hP.tab (by kernel_rfl) all_nil) rfl (by decide) (by simp;lia)
theorem aHe (hz:q.length<100000) (ha:acc.length<800000) (hp:bE q<0):DoesB K (n+1) scM sO ⟨cN l acc [("stretch",S q)],objs⟩ .next ⟨cN l (acc++aW q) [("stretch",S q),("place",.isym (bE q))],objs⟩:=by
 have hr:=aNc hP (n:=n+1) (objs:=objs) (l:=l) (acc:=acc) (q:=q) (more:=[("place",.isym (bE q))]) hz
 have hrl:=cF 91 [] q
 have hf:DoesCall K (n+1) (.builtin "str.find") [S q,.str "[",.isym ((match dW 10 q with|some i=>(i:Int)|none=> -1)+1)] [] objs (.isym (bE q)) objs:=by
  have:(match dW 10 q with|some i=>(i:Int)|none=> -1)+1=((mO q:Nat):Int):=by
   unfold mO
   cases dW 10 q with
   |none=>rfl
   |some i=>simp
  rw [this]
  exact hH rfl
 have hrf:DoesCall K (n+1) (.builtin "str.rfind") [S q,.str "\n"] [] objs (.isym (match dW 10 q with|some i=>(i:Int)|none=> -1)) objs:=lG rfl
 have e0:aW q=aQ 91 [] q++[93]:=by unfold aW;rw [if_pos hp]
 rw [e0]
 refine DoesB.post (st₁:=⟨[("pattern",S l),("stretches",.obj 0),("told",.sym (some true) (mkS acc++(mkS (aQ 91 [] q)++"]"))),("stretch",S q),("place",.isym (bE q))],objs⟩)
  (aB (m:=20) (k:=20) (td:=[.c (.isym (match dW 10 q with|some i=>(i:Int)|none=> -1)) objs,.c (.isym (bE q)) objs,.b true,.e (S (aQ 91 [] q)) ⟨cN l acc [("stretch",S q),("place",.isym (bE q))],objs⟩])
   (obs:=[DoesCall K (n+1) (.builtin "str.rfind") [S q,.str "\n"] [] objs (.isym (match dW 10 q with|some i=>(i:Int)|none=> -1)) objs,
    DoesCall K (n+1) (.builtin "str.find") [S q,.str "[",.isym ((match dW 10 q with|some i=>(i:Int)|none=> -1)+1)] [] objs (.isym (bE q)) objs,
    decide (bE q<0)=true,
    DoesE K (n+1) scM aKz ⟨cN l acc [("stretch",S q),("place",.isym (bE q))],objs⟩ (S (aQ 91 [] q)) ⟨cN l acc [("stretch",S q),("place",.isym (bE q))],objs⟩,
    (mkS (aQ 91 [] q)).length+Str.length "]"≤sizeLine,
    (mkS acc).length+(mkS (aQ 91 [] q)++"]":Str).length≤sizeLine]) hP.tab (by kernel_rfl)
   (aA hrf (aA hf (aA (decide_eq_true hp) (aA hr (aA ?_ (aA ?_ all_nil))))))) ?_
 ·rw [aK,sizeLine_eq];show _+1≤_;simp at hrl;lia
 ·rw [Str.length_append,aK,aK,sizeLine_eq];show _+(_+1)≤_;simp at hrl;lia
 ·refine⟨.cons ⟨rfl,AVle.refl _⟩ (.cons ⟨rfl,AVle.refl _⟩ (.cons ⟨rfl,lJ ?_⟩ (FLe.refl _))),bG AOle.refl _⟩
  show mkS acc++(mkS (aQ 91 [] q)++mkS [93])=_
  rw [cR,cR]
theorem aNb {more:List (Str×AV)} {pl:Nat} (hz:q.length<100000) (hp:pl≤q.length):DoesE K n scM aGc ⟨cN l acc (("stretch",S q)::("place",.isym (pl:Int))::more),objs⟩ (S (aQ 91 [] (q.take pl))) ⟨cN l acc (("stretch",S q)::("place",.isym (pl:Int))::more),objs⟩:=by
 have e:∃o p2 p3 p4 p5 k1 k2,aGc= .Call (.Attribute o "replace" p2) [.Constant (.str "[") k1 p3,.Constant (.str (mkS [])) k2 p4] [] p5∧Nat.beq p2.endLine p5.line=true∧(∃a b c,o= .Subscript a b c)∧o=(kE 0 (kE 0 aGc)):=⟨_,_,_,_,_,_,_,rfl,by kernel_rfl,⟨_,_,_,rfl⟩,rfl⟩
 refine aF fun gq hgq=> ?_
 refine aQm e fun o p2 p3 p4 p5 k1 k2 e hb ho eo=> ?_
 subst hgq
 rw [e]
 have htk:(q.take pl).length≤q.length:=by rw [List.length_take];omega
 refine eA (c:=91) (l:=q.take pl) (a:=S (q.take pl)) hP.tab rfl rfl (by obtain⟨a,b,c,rfl⟩:=ho;rfl) hb ?_ rfl (by decide) (by simp;omega)
 rw [eo]
 exact aI (m:=5) (td:=[.v (S (q.take pl))]) (obs:=[AVle (.sym none (Txt.slice (mkS q) none (some (pl:Int)))) (S (q.take pl))]) hP.tab (by kernel_rfl) (aA (by rw [aBe hp];exact AVle.refl _) all_nil)
theorem aHd (hz:q.length<100000) (ha:acc.length<800000) (hp:¬bE q<0):DoesB K (n+1) scM sO ⟨cN l acc [("stretch",S q)],objs⟩ .next ⟨cN l (acc++aW q) [("stretch",S q),("place",.isym (bE q))],objs⟩:=by
 refine cK (iH hp) fun hb he=> ?_
 have e0:aW q=aQ 91 [] (q.take (bE q).toNat)++57344::(q.drop ((bE q).toNat+1)++[57345]):=by unfold aW;rw [if_neg hp]
 rw [e0]
 have hf:DoesCall K (n+1) (.builtin "str.find") [S q,.str "[",.isym ((match dW 10 q with|some i=>(i:Int)|none=> -1)+1)] [] objs (.isym (bE q)) objs:=by
  have:(match dW 10 q with|some i=>(i:Int)|none=> -1)+1=((mO q:Nat):Int):=by
   unfold mO
   cases dW 10 q with
   |none=>rfl
   |some i=>simp
  rw [this]
  exact hH rfl
 have hrf:DoesCall K (n+1) (.builtin "str.rfind") [S q,.str "\n"] [] objs (.isym (match dW 10 q with|some i=>(i:Int)|none=> -1)) objs:=lG rfl
 have he:bE q=(((bE q).toNat:Nat):Int):=he
 have hb:(bE q).toNat<q.length:=hb
 generalize (bE q).toNat=pl at*
 rw [he]at hf hp⊢
 have hr:=aNb hP (n:=n+1) (objs:=objs) (l:=l) (acc:=acc) (q:=q) (more:=[]) (pl:=pl) hz (by lia)
 have hrl:=cF 91 [] (q.take pl)
 have htk:(q.take pl).length=pl:=by rw [List.length_take];lia
 have hdr:(q.drop (pl+1)).length=q.length - (pl+1):=List.length_drop
 have es:(pl:Int)+1=((pl+1:Nat):Int):=by simp
 refine DoesB.post (st₁:=⟨[("pattern",S l),("stretches",.obj 0),("told",.sym (some true) (mkS acc++(((mkS (aQ 91 [] (q.take pl))++mkS [57344])++mkS (q.drop (pl+1)))++mkS [57345]))),("stretch",S q),("place",.isym (pl:Int))],objs⟩)
  (aB (m:=20) (k:=20) (td:=[.c (.isym (match dW 10 q with|some i=>(i:Int)|none=> -1)) objs,.c (.isym (pl:Int)) objs,.b false,.e (S (aQ 91 [] (q.take pl))) ⟨cN l acc [("stretch",S q),("place",.isym (pl:Int))],objs⟩,.v (S (q.drop (pl+1)))])
   (obs:=[DoesCall K (n+1) (.builtin "str.rfind") [S q,.str "\n"] [] objs (.isym (match dW 10 q with|some i=>(i:Int)|none=> -1)) objs,
    DoesCall K (n+1) (.builtin "str.find") [S q,.str "[",.isym ((match dW 10 q with|some i=>(i:Int)|none=> -1)+1)] [] objs (.isym (pl:Int)) objs,
    decide ((pl:Int)<0)=false,
    DoesE K (n+1) scM aGc ⟨cN l acc [("stretch",S q),("place",.isym (pl:Int))],objs⟩ (S (aQ 91 [] (q.take pl))) ⟨cN l acc [("stretch",S q),("place",.isym (pl:Int))],objs⟩,
    (mkS (aQ 91 [] (q.take pl))).length+(mkS [57344]).length≤sizeLine,
    AVle (.sym none (Txt.slice (mkS q) (some ((pl:Int)+1)) none)) (S (q.drop (pl+1))),
    (mkS (aQ 91 [] (q.take pl))++mkS [57344]:Str).length+(mkS (q.drop (pl+1))).length≤sizeLine,
    ((mkS (aQ 91 [] (q.take pl))++mkS [57344])++mkS (q.drop (pl+1)):Str).length+(mkS [57345]).length≤sizeLine,
    (mkS acc).length+(((mkS (aQ 91 [] (q.take pl))++mkS [57344])++mkS (q.drop (pl+1)))++mkS [57345]:Str).length≤sizeLine]) hP.tab (by kernel_rfl)
   (aA hrf (aA hf (aA (decide_eq_false hp) (aA hr (aA ?_ (aA ?_ (aA ?_ (aA ?_ (aA ?_ all_nil)))))))))) ?_
 ·rw [aK,aK,sizeLine_eq];simp at hrl⊢;lia
 ·rw [es,nB (by lia)];exact AVle.refl _
 ·simp only [Str.length_append,aK,sizeLine_eq,List.length_cons,List.length_nil]at hrl⊢;lia
 ·simp only [Str.length_append,aK,sizeLine_eq,List.length_cons,List.length_nil]at hrl⊢;lia
 ·simp only [Str.length_append,aK,sizeLine_eq,List.length_cons,List.length_nil]at hrl⊢;lia
 ·refine⟨.cons ⟨rfl,AVle.refl _⟩ (.cons ⟨rfl,AVle.refl _⟩ (.cons ⟨rfl,lJ ?_⟩ (FLe.refl _))),bG AOle.refl _⟩
  rw [cR,cR,cR,cR]
  simp
theorem aMr (hz:q.length<100000) (ha:acc.length<800000):DoesB K (n+1) scM sO ⟨cN l acc [("stretch",S q)],objs⟩ .next ⟨cN l (acc++aW q) [("stretch",S q),("place",.isym (bE q))],objs⟩:=by
 by_cases hp:bE q<0
 ·exact aHe hP hz ha hp
 ·exact aHd hP hz ha hp
end
end Mine
end
section
namespace Mine
noncomputable def aX (l:List Nat):List Nat:=(aD 93 l).dropLast.flatMap aW++qY ((aD 93 l).getLast (bR 93 l))
noncomputable def aPc:Expr:=kE 0 (kE 0 (stE (aC bodyM 2)))
theorem aEo (l:List Nat):(aD 93 l).map S=((aD 93 l).dropLast.map S)++[S ((aD 93 l).getLast (bR 93 l))]:=by
 conv=>lhs;rw [←List.dropLast_concat_getLast (bR 93 l)]
 rw [List.map_append]
 rfl
theorem eZ (c:Nat):∀l:List Nat,(aD c l).length≤l.length+1
 |[]=>by simp [aD]
 |d::l=>by
  have ih:=eZ c l
  unfold aD
  split
  ·simp;lia
  ·split
   ·rename_i h t e;rw [e]at ih;simp at ih⊢;lia
   ·simp
theorem pT (c:Nat):∀l:List Nat,((aD c l).map List.length).sum≤l.length
 |[]=>by simp [aD]
 |d::l=>by
  have ih:=pT c l
  unfold aD
  split
  ·simp;lia
  ·split
   ·rename_i h t e;rw [e]at ih;simp at ih⊢;lia
   ·simp
section
variable {K:Params→Frag} (hP:Prog2 K) {n:Nat} {l acc:List Nat}
include hP
theorem aNm (hz:l.length<1000000):DoesB K (n+1) scM [aC bodyM 0] ⟨[("pattern",S l)],[]⟩ .next ⟨cN l [] [],[.list ((aD 93 l).map S)]⟩:=by
 have e:∃p1 p2 k p e pos,aC bodyM 0= .Assign [.Tuple (dA [("told",p1),("stretches",p2)]) k p] e pos∧dY e=false∧swappedStores [.Tuple (dA [("told",p1),("stretches",p2)]) k p] e {(default:Env)with scope:=scM}=(pure (some [("told":Str),("stretches":Str)]):Sem (Option (List Str)))∧e=wX (aC bodyM 0):=⟨_,_,_,_,_,_,rfl,by rfl,by kernel_rfl,rfl⟩
 refine aF fun gq hgq=> ?_
 refine aMg e fun p1 p2 k p e pos he hc hw ee=> ?_
 subst hgq
 rw [he]
 have hE:DoesE K (n+1) scM e ⟨[("pattern",S l)],[]⟩ (.obj 1) ⟨[("pattern",S l)],[.list ((aD 93 l).map S),.tup [.str "",.obj 0]]⟩:=by
  rw [ee]
  exact aI (m:=20) (td:=[.c (.obj 0) [.list ((aD 93 l).map S)]]) (obs:=[DoesCall K (n+1) (.builtin "str.split") [S l,.str "]"] [] [] (.obj 0) [.list ((aD 93 l).map S)]]) hP.tab (by kernel_rfl) (aA (lF (objs:=[]) rfl hz) all_nil)
 have h1:=iQ (ts:=[("told",p1),("stretches",p2)]) (xs:=[.str "",.obj 0]) (pos:=pos) hc hE rfl rfl (by kernel_rfl) hw
 have h2:DoesS K (n+1) scM (.Assign [.Tuple (dA [("told",p1),("stretches",p2)]) k p] e pos) ⟨[("pattern",S l)],[]⟩ .next ⟨[("pattern",S l),("stretches",.obj 0),("told",.str "")],[.list ((aD 93 l).map S)]⟩:=by
  refine DoesS.forget (locm:=[]) (more:=[.tup [.str "",.obj 0]]) ?_ (by simp) (by rfl) ?_ rfl
  ·exact h1
  ·simp only [List.all_cons,List.all_nil,Bool.and_true]
   show((aD 93 l).map S).all (AV.below 1)=true
   rw [List.all_map]
   exact List.all_eq_true.mpr fun zz zz=>rfl
 exact DoesB.post (bD h2 cM) ⟨.cons ⟨rfl,AVle.refl _⟩ (.cons ⟨rfl,AVle.refl _⟩ (.cons ⟨rfl,dJ (by rfl)⟩ .nil)),bG AOle.refl _⟩
theorem aFw {objs:List AO} (h0:objs.all (AO.below objs.length)=true) (hz2:0<objs.length) {good:AS→Prop} (hg:∀loc,good ⟨loc,objs⟩):∀(qs:List (List Nat)) (acc:List Nat),(∀q∈qs,q.length<100000)→acc.length+(qs.map (fun q=>q.length+2)).sum<800000→
  Turns K (n+1) scM "stretch" sO good (qs.map S) ⟨cN l acc [],objs⟩ ⟨cN l (acc++qs.flatMap aW) [],objs⟩
 |[],acc,_,_=>by
  simp only [List.map_nil,List.flatMap_nil,List.append_nil]
  exact .nil
 |q::qs,acc,hq,ha=>by
  have hlen:(aW q).length≤q.length+2:=by
   unfold aW
   split
   ·have:=cF 91 [] q
    simp at this⊢;lia
   ·rename_i hp
    have hb:=(iH hp).1
    have:=cF 91 [] (q.take (bE q).toNat)
    have h3:(q.take (bE q).toNat).length=(bE q).toNat:=by rw [List.length_take];have:(bE q).toNat<q.length:=hb;lia
    have hb:(bE q).toNat<q.length:=hb
    simp only [List.length_append,List.length_cons,List.length_drop,List.length_nil]at this⊢
    lia
  simp only [List.map_cons,List.sum_cons,List.flatMap_cons,←List.append_assoc]at ha⊢
  refine .cons (g:=.next) ?_ rfl (hg _) (aFw h0 hz2 hg qs (acc++aW q) (fun p hp=>hq p (.tail _ hp)) (by rw [List.length_append];lia))
  have hT:=aMr hP (n:=n) (objs:=objs) (l:=l) (acc:=acc) (q:=q) (hq q (.head _)) (by lia)
  refine DoesB.forget (locm:=[("stretch",S q),("place",.isym (bE q))]) (more:=[]) ?_ (Nat.le_refl _) ?_ h0 rfl
  ·rw [List.append_nil]
   exact hT
  ·simp [cN,AV.below,hz2,S]
noncomputable def aF5:Stmt:=aC bodyM 1
theorem aQ3:DoesE K (n+1) scM (fP aF5) ⟨cN l acc [],[.list ((aD 93 l).map S)]⟩ (.obj 1) ⟨cN l acc [],[.list ((aD 93 l).map S),.list ((aD 93 l).dropLast.map S)]⟩∨900000<l.length:=by
 by_cases hz:l.length≤900000
 ·left
  have e:∃p1 hi p pos,fP aF5= .Subscript (.Name "stretches" p1) (.Slice none (some hi) none p) pos∧hi=(kE 0 (kE 1 (fP aF5))):=⟨_,_,_,_,rfl,rfl⟩
  refine aF fun gq hgq=> ?_
  refine yS e fun p1 hi p pos e eh=> ?_
  subst hgq
  rw [e]
  have hlen:=eZ 93 l
  refine pI (k:=0) (st₁:=⟨cN l acc [],[.list ((aD 93 l).map S)]⟩) (st₃:=⟨cN l acc [],[.list ((aD 93 l).map S)]⟩) (xs:=(aD 93 l).map S) (jl:=none) (ju:=some (-1)) (aI (m:=3) (td:=[]) (obs:=[]) hP.tab (by kernel_rfl) all_nil) nN (nM (b:=.int (-1)) ?_ rfl) rfl ?_ (by simp only [List.length_map,sizeLine_eq];omega)
  ·rw [eh]
   exact aI (m:=5) (td:=[]) (obs:=[]) hP.tab (by kernel_rfl) all_nil
  ·show some (((aD 93 l).map S).take (((aD 93 l).map S).length - (0+1)))=_
   rw [←List.dropLast_eq_take,List.map_dropLast]
 ·right;omega
theorem aRo (hz:l.length<100000):DoesS K (n+1) scM aF5 ⟨cN l [] [],[.list ((aD 93 l).map S)]⟩ .next ⟨cN l ((aD 93 l).dropLast.flatMap aW) [],[.list ((aD 93 l).map S)]⟩:=by
 have q:∃p1 p2,aF5= .For (.Name "stretch" p1) (fP aF5) sO [] p2:=⟨_,_,rfl⟩
 refine iK q fun p1 p2 q=> ?_
 have hi:=(aQ3 hP (n:=n) (l:=l) (acc:=[])).resolve_right (by lia)
 have hq:∀q∈(aD 93 l).dropLast,q.length<100000:=fun q h=>by
  have:=iU 93 l q (List.dropLast_subset _ h)
  lia
 have hsum:((aD 93 l).dropLast.map (fun q=>q.length+2)).sum<800000:=by
  have h1:=pT 93 l
  have h2:=eZ 93 l
  have key:∀ps:List (List Nat),(ps.map (fun q=>q.length+2)).sum=(ps.map List.length).sum+2*ps.length:=by
   intro ps
   induction ps with
   |nil=>rfl
   |cons a r ih=>simp [ih];lia
  have h3:((aD 93 l).dropLast.map List.length).sum≤((aD 93 l).map List.length).sum:=by
   conv=>rhs;rw [←List.dropLast_concat_getLast (bR 93 l)]
   rw [List.map_append,List.sum_append]
   lia
  rw [key,List.length_dropLast]
  lia
 have hb2:([.list ((aD 93 l).map S),.list ((aD 93 l).dropLast.map S)]:List AO).all (AO.below 2)=true:=by
  simp only [List.all_cons,List.all_nil,Bool.and_true,Bool.and_eq_true]
  constructor
  ·show((aD 93 l).map S).all (AV.below 2)=true
   rw [List.all_map]
   exact List.all_eq_true.mpr fun zz zz=>rfl
  ·show((aD 93 l).dropLast.map S).all (AV.below 2)=true
   rw [List.all_map]
   exact List.all_eq_true.mpr fun zz zz=>rfl
 rw [q]
 refine DoesS.forget (locm:=[]) (more:=[.list ((aD 93 l).dropLast.map S)]) ?_ (Nat.le_refl _) (by rfl) ?_ rfl
 ·rw [List.append_nil]
  have T:=aFw hP (n:=n) (l:=l) (objs:=[.list ((aD 93 l).map S),.list ((aD 93 l).dropLast.map S)]) hb2 (by simp) (good:=fun st'=>st'.objs[1]?=some (.list ((aD 93 l).dropLast.map S))) (fun zz=>rfl) (aD 93 l).dropLast [] hq (by simpa using hsum)
  exact lX (fun zz zz=>rfl) (by rw [aN];kernel_rfl) hi (eH rfl) rfl T
 ·simp only [List.all_cons,List.all_nil,Bool.and_true]
  show((aD 93 l).map S).all (AV.below 1)=true
  rw [List.all_map]
  exact List.all_eq_true.mpr fun zz zz=>rfl
end
end Mine
end
section
namespace Mine
noncomputable def aRa:Expr:=stE (aC (aO (aC bodyM 3)) 0)
noncomputable def aOh:Expr:=aKy (aC bodyM 4)
noncomputable abbrev aO5:Expr→Expr:=kE 1
noncomputable abbrev aR4:Expr→Expr:=kE 0
noncomputable def aOe:Expr:=aO5 aRa
noncomputable def aOd:Expr:=aR4 (aO5 (aJr (aJr aOh)))
noncomputable def aOc:Expr:=aR4 (aO5 aOh)
noncomputable def aRs:List Stmt:=bodyM.drop 2
section
variable {K:Params→Frag} (hP:Prog2 K) {n:Nat} {l acc:List Nat}
include hP
theorem zS {e:Expr} {more:List (Str×AV)} (he:∃p1 p2 p3 k p4,e= .Subscript (.Name "stretches" p1) (.UnaryOp .USub (.Constant (.int 1) k p2) p3) p4) (hz:l.length<100000):DoesE K n scM e ⟨cN l acc more,[.list ((aD 93 l).map S)]⟩ (S ((aD 93 l).getLast (bR 93 l))) ⟨cN l acc more,[.list ((aD 93 l).map S)]⟩:=by
 refine vV he fun p1 p2 p3 k p4 q5_=> ?_;subst q5_
 have hlen:=eZ 93 l
 refine uY (k:=0) (b:=.int (-1)) (j:= -1) (st₁:=⟨cN l acc more,[.list ((aD 93 l).map S)]⟩) (xs:=(aD 93 l).map S) (by intros;exact nofun) (aI (m:=3) (td:=[]) (obs:=[]) hP.tab (by kernel_rfl) all_nil) (aI (m:=3) (td:=[]) (obs:=[]) hP.tab (by kernel_rfl) all_nil) rfl rfl ?_ (by rw [List.length_map];lia)
 rw [aEo l]
 exact qZ
theorem aRr (hz:l.length<100000) (ha:acc.length<800000):∃loc',DoesB K (n+1) scM aRs ⟨cN l acc [],[.list ((aD 93 l).map S)]⟩ (.ret (S (acc++qY ((aD 93 l).getLast (bR 93 l))))) ⟨loc',[.list ((aD 93 l).map S)]⟩:=by
 have i1:=zS hP (n:=n+1) (l:=l) (acc:=acc) (e:=aPc) (more:=[]) ⟨_,_,_,_,_,rfl⟩ hz
 have i2:=fun more=>zS hP (n:=n+1) (l:=l) (acc:=acc) (e:=aOe) (more:=more) ⟨_,_,_,_,_,rfl⟩ hz
 have i3:=fun more=>zS hP (n:=n+1) (l:=l) (acc:=acc) (e:=aOd) (more:=more) ⟨_,_,_,_,_,rfl⟩ hz
 have i4:=fun more=>zS hP (n:=n+1) (l:=l) (acc:=acc) (e:=aOc) (more:=more) ⟨_,_,_,_,_,rfl⟩ hz
 have hq:((aD 93 l).getLast (bR 93 l)).length≤l.length:=iU 93 l _ (List.getLast_mem _)
 generalize (aD 93 l).getLast (bR 93 l)=q at*
 generalize ([.list ((aD 93 l).map S)]:List AO)=objs at*
 have hf:DoesCall K (n+1) (.builtin "str.find") [S q,.str "["] [] objs (.isym (bJ 91 q 0)) objs:=wO rfl
 unfold qY
 by_cases hp:bJ 91 q 0<0
 ·rw [if_pos hp]
  refine⟨cN l acc [("place",.isym (bJ 91 q 0))],DoesB.ret (a:=.sym none (mkS acc++mkS q)) ?_ (lJ (cR _ _))⟩
  exact aB (m:=20) (k:=20) (td:=[.e (S q) ⟨cN l acc [],objs⟩,.c (.isym (bJ 91 q 0)) objs,.b true,.e (S q) ⟨cN l acc [("place",.isym (bJ 91 q 0))],objs⟩])
   (obs:=[DoesE K (n+1) scM aPc ⟨cN l acc [],objs⟩ (S q) ⟨cN l acc [],objs⟩,
    DoesCall K (n+1) (.builtin "str.find") [S q,.str "["] [] objs (.isym (bJ 91 q 0)) objs,
    decide (bJ 91 q 0<0)=true,
    DoesE K (n+1) scM aOe ⟨cN l acc [("place",.isym (bJ 91 q 0))],objs⟩ (S q) ⟨cN l acc [("place",.isym (bJ 91 q 0))],objs⟩,
    (mkS acc).length+(mkS q).length≤sizeLine]) hP.tab (by kernel_rfl)
   (aA i1 (aA hf (aA (decide_eq_true hp) (aA (i2 _) (aA (by rw [aK,aK,sizeLine_eq];lia) all_nil)))))
 ·rw [if_neg hp]
  refine cK (iH hp) fun hb he=> ?_
  generalize (bJ 91 q 0).toNat=pl at*
  rw [he]at hf hp
  have es:(pl:Int)+1=((pl+1:Nat):Int):=by simp
  have htk:(q.take pl).length=pl:=by rw [List.length_take];lia
  have hdr:(q.drop (pl+1)).length=q.length - (pl+1):=List.length_drop
  refine⟨cN l acc [("place",.isym (pl:Int))],DoesB.ret (a:=.sym (some true) (((mkS acc++mkS (q.take pl))++mkS [57344])++mkS (q.drop (pl+1)))) ?_ (lJ ?_)⟩
  ·exact aB (m:=20) (k:=20) (td:=[.e (S q) ⟨cN l acc [],objs⟩,.c (.isym (pl:Int)) objs,.b false,.e (S q) ⟨cN l acc [("place",.isym (pl:Int))],objs⟩,.v (S (q.take pl)),.e (S q) ⟨cN l acc [("place",.isym (pl:Int))],objs⟩,.v (S (q.drop (pl+1)))])
    (obs:=[DoesE K (n+1) scM aPc ⟨cN l acc [],objs⟩ (S q) ⟨cN l acc [],objs⟩,
     DoesCall K (n+1) (.builtin "str.find") [S q,.str "["] [] objs (.isym (pl:Int)) objs,
     decide ((pl:Int)<0)=false,
     DoesE K (n+1) scM aOd ⟨cN l acc [("place",.isym (pl:Int))],objs⟩ (S q) ⟨cN l acc [("place",.isym (pl:Int))],objs⟩,
     AVle (.sym none (Txt.slice (mkS q) none (some (pl:Int)))) (S (q.take pl)),
     (mkS acc).length+(mkS (q.take pl)).length≤sizeLine,
     (mkS acc++mkS (q.take pl):Str).length+(mkS [57344]).length≤sizeLine,
     DoesE K (n+1) scM aOc ⟨cN l acc [("place",.isym (pl:Int))],objs⟩ (S q) ⟨cN l acc [("place",.isym (pl:Int))],objs⟩,
     AVle (.sym none (Txt.slice (mkS q) (some ((pl:Int)+1)) none)) (S (q.drop (pl+1))),
     ((mkS acc++mkS (q.take pl))++mkS [57344]:Str).length+(mkS (q.drop (pl+1))).length≤sizeLine]) hP.tab (by kernel_rfl)
    (aA i1 (aA hf (aA (decide_eq_false hp) (aA (i3 _) (aA (by rw [aBe (by lia)];exact AVle.refl _) (aA (by rw [aK,aK,sizeLine_eq];lia)
     (aA (by simp only [Str.length_append,aK,sizeLine_eq,List.length_cons,List.length_nil];lia) (aA (i4 _) (aA (by rw [es,nB (by lia)];exact AVle.refl _)
     (aA (by simp only [Str.length_append,aK,sizeLine_eq,List.length_cons,List.length_nil];lia) all_nil))))))))))
  ·rw [cR,cR,cR]
   simp
theorem aFo (hz:l.length<100000):∃objs',DoesCall K (n+2) (.ref 792) [S l] [] [] (S (aX l)) objs':=by
 have hl2:((aD 93 l).dropLast.flatMap aW).length<800000:=by
  have key:∀ps:List (List Nat),(ps.flatMap aW).length≤(ps.map List.length).sum+2*ps.length:=by
   intro ps
   induction ps with
   |nil=>simp
   |cons q r ih=>
    have hlen:(aW q).length≤q.length+2:=by
     unfold aW
     split
     ·have:=cF 91 [] q
      simp at this⊢;lia
     ·rename_i hp
      have hb:=(iH hp).1
      have:=cF 91 [] (q.take (bE q).toNat)
      have hb:(bE q).toNat<q.length:=hb
      have h3:(q.take (bE q).toNat).length=(bE q).toNat:=by rw [List.length_take];lia
      simp only [List.length_append,List.length_cons,List.length_drop,List.length_nil]at this⊢
      lia
    simp only [List.flatMap_cons,List.length_append,List.map_cons,List.sum_cons,List.length_cons]
    lia
  have h1:=pT 93 l
  have h2:=eZ 93 l
  have h3:((aD 93 l).dropLast.map List.length).sum≤((aD 93 l).map List.length).sum:=by
   conv=>rhs;rw [←List.dropLast_concat_getLast (bR 93 l)]
   rw [List.map_append,List.sum_append]
   lia
  have:=key (aD 93 l).dropLast
  rw [List.length_dropLast]at this
  lia
 refine cB (aRr hP (n:=n) (l:=l) (acc:=(aD 93 l).dropLast.flatMap aW) hz hl2) fun loc' hE=> ?_
 refine⟨[.list ((aD 93 l).map S)],bZ hP.f792.fn (hb1 hP.b792) (by kernel_rfl) (bI (by kernel_rfl)) (fl:=.ret (S (aX l))) (loc':=loc') ?_ rfl⟩
 have q:aO (aC aR 32)=[aC bodyM 0]++(aF5::aRs):=by kernel_rfl
 rw [q]
 exact bP (aNm hP (by lia)) (bD (aRo hP hz) hE)
end
end Mine
end
section
namespace Mine
noncomputable def eW:Scope:=bC (aC aR 29)
noncomputable def eS:List Stmt:=aO (aC aR 29)
noncomputable def eL:List Stmt:=aO (aC eS 1)
noncomputable def kL:List Stmt:=aO (aC eL 1)
noncomputable def tblL:List Nat:=[91,93,91,93,10,39,91,93,32,97,46,92,34,42,35]
noncomputable def kA (ps:List (List Nat)) (c:Nat):List (List Nat):=ps.dropLast++[ps.getLastD []++[c]]
noncomputable def kY (nu pl:Int):Int:=((nu.fdiv pl).fmod 100).fmod 20
noncomputable def xH (hi nu k:Int):Nat:=if k=16 then(hi.fmod 55296).toNat else if k=15 then(nu.fmod 128).toNat else tblL.getD k.toNat 0
noncomputable def iA (hi nu pl:Int) (ps:List (List Nat)):List (List Nat):=if 16<kY nu pl then ps++[[]]else kA ps (xH hi nu (kY nu pl))
noncomputable def dP (more:List (Str×AV)):List (Str×AV):=("script",.obj 0)::("patterns",.obj 1)::more
structure Fx where
 vs:List Value
 n:Nat
noncomputable def obP (cells:Fx) (ps:List (List Nat)) (rest:List AO):List AO:=.fix cells.vs cells.n:: .list (ps.map S)::rest
noncomputable def if1:Stmt:=aC kL 1
noncomputable def if2:Stmt:=aC (orW if1) 0
noncomputable def if3:Stmt:=aC (orW if2) 0
noncomputable def g16:Stmt:=aC (aO if2) 0
noncomputable def g15:Stmt:=aC (aO if3) 0
noncomputable def g0:Stmt:=aC (orW if3) 0
theorem aEy (nu pl:Int):0≤kY nu pl∧kY nu pl<20:=by
 unfold kY
 rw [Int.fmod_eq_emod_of_nonneg _ (by omega)]
 omega
theorem yA {ps:List (List Nat)} (h:ps≠ []) (c:Nat):∃q,ps=ps.dropLast++[q]∧kA ps c=ps.dropLast++[q++[c]]:=by
 refine⟨ps.getLast h,(List.dropLast_concat_getLast h).symm, ?_⟩
 unfold kA
 rw [List.getLastD_eq_getLast?,List.getLast?_eq_some_getLast h]
 rfl
section
variable {K:Params→Frag} (hP:Prog2 K) {n:Nat} {cells:Fx} {ps:List (List Nat)} {rest:List AO} {hi nu pl:Int} {cv pv:AV}
include hP
noncomputable def fX (cv pv:AV) (hi nu k:Int):List (Str×AV):=dP [("cell",cv),("high",.isym hi),("number",.isym nu),("place",pv),("kind",.isym k)]
theorem aF2 {g:Stmt} {e:Expr} {b:AV} {c:Nat} {k:Int} (hg:∃p1 p2 p3 p4 k1 p5,g= .AugAssign (.Subscript (.Name "patterns" p1) (.UnaryOp .USub (.Constant (.int 1) k1 p2) p3) p4) .Add e p5)
  (he:DoesE K n eW e ⟨fX cv pv hi nu k,obP cells ps rest⟩ b ⟨fX cv pv hi nu k,obP cells ps rest⟩) (hb:cS b=some (mkS [c])) (hne:ps≠ []) (hl:ps.length<1000) (hq:∀q∈ps,q.length<1000):
  DoesS K n eW g ⟨fX cv pv hi nu k,obP cells ps rest⟩ .next ⟨fX cv pv hi nu k,obP cells (kA ps c) rest⟩:=by
 refine aF fun gq hgq=> ?_
 refine aS5 hg fun p1 p2 p3 p4 k1 p5 q6_=> ?_;subst q6_
 refine aH (yA hne c) fun q e1 e2=> ?_
 subst hgq
 have hql:q.length<1000:=hq q (by rw [e1];simp)
 have hs:(obP cells ps rest)[1]?=some (.list (ps.dropLast.map S++[S q])):=by
  show some (AO.list (ps.map S))=_
  conv=>lhs;rw [e1]
  rw [List.map_append]
  rfl
 have h:=uW (K:=K) (n:=n) (sc:=eW) (st:=⟨fX cv pv hi nu k,obP cells ps rest⟩) (st₁:=⟨fX cv pv hi nu k,obP cells ps rest⟩) (st₂:=⟨fX cv pv hi nu k,obP cells ps rest⟩) (k:=1) (z:="patterns") (zp:=p1) (i:=.UnaryOp .USub (.Constant (.int 1) k1 p2) p3) (p:=p4) (pos:=p5) (a:=S q) (xs:=ps.dropLast.map S) (c:=.none)
  (by intros;exact nofun) (aI (m:=3) (td:=[]) (obs:=[]) hP.tab (by kernel_rfl) all_nil) (aI (m:=3) (td:=[]) (obs:=[]) hP.tab (by kernel_rfl) all_nil) hs he hs (by rw [List.length_map,List.length_dropLast];omega) (y1:=mkS q) rfl hb (by rw [aK,aK,sizeLine_eq];simp;omega)
 intro x hx ρ s Q E R kk
 refine h x hx ρ s Q E R fun a s' ρ' R' N' d=>kk a s' ρ' (R'.weak ⟨FLe.refl _, ?_⟩) N' d
 show All2 AOle (.fix cells.vs cells.n:: .list (ps.dropLast.map S++[.sym none (mkS q++mkS [c])])::rest) (.fix cells.vs cells.n:: .list ((kA ps c).map S)::rest)
 refine .cons (AOle.refl _) (.cons (gN ?_) (bG AOle.refl _))
 rw [e2,List.map_append]
 exact(bG AVle.refl _).append (.cons (lJ (cR _ _)) .nil)
theorem aMq {rest:List AO} (hpl:pl=1∨pl=100∨pl=10000) (hh:0≤hi) (hn:0≤nu) (hne:ps≠ []) (hl:ps.length<1000) (hq:∀q∈ps,q.length<1000):
  DoesB K (n+1) eW kL ⟨dP [("cell",cv),("high",.isym hi),("number",.isym nu),("place",.int pl)],obP cells ps rest⟩ .next ⟨fX cv (.int pl) hi nu (kY nu pl),obP cells (iA hi nu pl ps) rest⟩:=by
 refine cK (aEy nu pl) fun r1 r2=> ?_
 have hd:pl≠0∧Builtin.divisionGoesByPylong nu pl=false:=by
  rcases hpl with rfl|rfl|rfl
  ·exact⟨by decide,rfl⟩
  ·exact⟨by decide,rfl⟩
  ·exact⟨by decide,rfl⟩
 have tl:kL=[aC kL 0,if1]:=by rfl
 have h0:DoesB K (n+1) eW [aC kL 0] ⟨dP [("cell",cv),("high",.isym hi),("number",.isym nu),("place",.int pl)],obP cells ps rest⟩ .next ⟨fX cv (.int pl) hi nu (kY nu pl),obP cells ps rest⟩:=
  aB (m:=20) (k:=20) (td:=[]) (obs:=[pl≠0∧Builtin.divisionGoesByPylong nu pl=false,(100:Int)≠0,(20:Int)≠0]) hP.tab (by kernel_rfl) (aA hd (aA (by decide) (aA (by decide) all_nil)))
 rw [tl]
 refine bP (l:=[aC kL 0]) (r:=[if1]) h0 ?_
 unfold iA
 generalize kY nu pl=k at*
 by_cases h1:16<k
 ·rw [if_pos h1]
  refine DoesB.post (st₁:=⟨fX cv (.int pl) hi nu k,.fix cells.vs cells.n:: .list (ps.map S++[.str ""])::rest⟩)
   (aB (m:=20) (k:=20) (td:=[.b true,.c .none (.fix cells.vs cells.n:: .list (ps.map S++[.str ""])::rest)])
    (obs:=[decide (16<k)=true,DoesCall K (n+1) (.builtin "list.append") [.obj 1,.str ""] [] (obP cells ps rest) .none (.fix cells.vs cells.n:: .list (ps.map S++[.str ""])::rest)]) hP.tab (by kernel_rfl)
    (aA (decide_eq_true h1) (aA ?_ all_nil))) ?_
  ·exact dV (k:=1) (xs:=ps.map S) rfl (by rw [List.length_map,sizeLine_eq];lia)
  ·refine⟨FLe.refl _,.cons (AOle.refl _) (.cons (gN ?_) (bG AOle.refl _))⟩
   rw [List.map_append]
   exact(bG AVle.refl _).append (.cons (dJ (by rfl)) .nil)
 ·rw [if_neg h1]
  unfold xH
  by_cases h2:k=16
  ·rw [if_pos h2]
   have hm:0≤hi.fmod 55296∧hi.fmod 55296<55296:=by rw [Int.fmod_eq_emod_of_nonneg _ (by lia)];lia
   have hE:DoesE K (n+1) eW (aM7 g16) ⟨fX cv (.int pl) hi nu k,obP cells ps rest⟩ (.sym (some true) (mkS [(hi.fmod 55296).toNat])) ⟨fX cv (.int pl) hi nu k,obP cells ps rest⟩:=
    aI (m:=20) (td:=[.c (.sym (some true) (mkS [(hi.fmod 55296).toNat])) (obP cells ps rest)]) (obs:=[(55296:Int)≠0,DoesCall K (n+1) (.builtin "chr") [.isym (hi.fmod 55296)] [] (obP cells ps rest) (.sym (some true) (mkS [(hi.fmod 55296).toNat])) (obP cells ps rest)]) hP.tab (by kernel_rfl)
     (aA (by decide) (aA (aD8 hm.1 (by lia)) all_nil))
   have hS:=aF2 hP (g:=g16) ⟨_,_,_,_,_,_,rfl⟩ hE rfl hne hl hq
   exact aB (m:=20) (k:=20) (td:=[.b false,.b true,.s .next ⟨fX cv (.int pl) hi nu k,obP cells (kA ps (hi.fmod 55296).toNat) rest⟩])
    (obs:=[decide (16<k)=false,decide (k=16)=true,DoesS K (n+1) eW g16 ⟨fX cv (.int pl) hi nu k,obP cells ps rest⟩ .next ⟨fX cv (.int pl) hi nu k,obP cells (kA ps (hi.fmod 55296).toNat) rest⟩]) hP.tab (by kernel_rfl)
    (aA (decide_eq_false h1) (aA (decide_eq_true h2) (aA hS all_nil)))
  ·rw [if_neg h2]
   by_cases h3:k=15
   ·rw [if_pos h3]
    have hm:0≤nu.fmod 128∧nu.fmod 128<128:=by rw [Int.fmod_eq_emod_of_nonneg _ (by lia)];lia
    have hE:DoesE K (n+1) eW (aM7 g15) ⟨fX cv (.int pl) hi nu k,obP cells ps rest⟩ (.sym (some true) (mkS [(nu.fmod 128).toNat])) ⟨fX cv (.int pl) hi nu k,obP cells ps rest⟩:=
     aI (m:=20) (td:=[.c (.sym (some true) (mkS [(nu.fmod 128).toNat])) (obP cells ps rest)]) (obs:=[(128:Int)≠0,DoesCall K (n+1) (.builtin "chr") [.isym (nu.fmod 128)] [] (obP cells ps rest) (.sym (some true) (mkS [(nu.fmod 128).toNat])) (obP cells ps rest)]) hP.tab (by kernel_rfl)
      (aA (by decide) (aA (aD8 hm.1 (by lia)) all_nil))
    have hS:=aF2 hP (g:=g15) ⟨_,_,_,_,_,_,rfl⟩ hE rfl hne hl hq
    exact aB (m:=20) (k:=20) (td:=[.b false,.b false,.b true,.s .next ⟨fX cv (.int pl) hi nu k,obP cells (kA ps (nu.fmod 128).toNat) rest⟩])
     (obs:=[decide (16<k)=false,decide (k=16)=false,decide (k=15)=true,DoesS K (n+1) eW g15 ⟨fX cv (.int pl) hi nu k,obP cells ps rest⟩ .next ⟨fX cv (.int pl) hi nu k,obP cells (kA ps (nu.fmod 128).toNat) rest⟩]) hP.tab (by kernel_rfl)
     (aA (decide_eq_false h1) (aA (decide_eq_false h2) (aA (decide_eq_true h3) (aA hS all_nil))))
   ·rw [if_neg h3]
    have hk:∃m:Nat,k=(m:Int)∧m<15:=⟨k.toNat,by lia,by lia⟩
    refine aH hk fun m q1_ hm=> ?_;subst q1_
    have hc:fitsSsize (m:Int)=true∧Txt.charAt (mkS tblL) (m:Int)=some (tblL.getD m 0):=by
     have:∀m:Nat,m<15→fitsSsize (m:Int)=true∧Txt.charAt (mkS tblL) (m:Int)=some (tblL.getD m 0):=by decide+kernel
     exact this m hm
    have e3:(m:Int).toNat=m:=rfl
    rw [e3]
    have hE:DoesE K (n+1) eW (aM7 g0) ⟨fX cv (.int pl) hi nu (m:Int),obP cells ps rest⟩ (.chr (.cofin []) (tblL.getD m 0)) ⟨fX cv (.int pl) hi nu (m:Int),obP cells ps rest⟩:=
     aI (m:=20) (td:=[.v (.chr (.cofin []) (tblL.getD m 0))]) (obs:=[fitsSsize (m:Int)=true,Txt.charAt (mkS tblL) (m:Int)=some (tblL.getD m 0),(Cls.cofin []).has (tblL.getD m 0)]) hP.tab (by kernel_rfl)
      (aA hc.1 (aA hc.2 (aA (by show _∉ [];simp) all_nil)))
    have hS:=aF2 hP (g:=g0) ⟨_,_,_,_,_,_,rfl⟩ hE rfl hne hl hq
    exact aB (m:=20) (k:=20) (td:=[.b false,.b false,.b false,.s .next ⟨fX cv (.int pl) hi nu (m:Int),obP cells (kA ps (tblL.getD m 0)) rest⟩])
     (obs:=[decide (16<(m:Int))=false,decide ((m:Int)=16)=false,decide ((m:Int)=15)=false,DoesS K (n+1) eW g0 ⟨fX cv (.int pl) hi nu (m:Int),obP cells ps rest⟩ .next ⟨fX cv (.int pl) hi nu (m:Int),obP cells (kA ps (tblL.getD m 0)) rest⟩]) hP.tab (by kernel_rfl)
     (aA (decide_eq_false h1) (aA (decide_eq_false h2) (aA (decide_eq_false h3) (aA hS all_nil))))
end
end Mine
end
section
namespace Mine
structure PsOk (ps:List (List Nat)) (m:Nat):Prop where
 ne:ps≠ []
 len:ps.length≤1+m
 el:∀q∈ps,q.length≤m
theorem PsOk.step {ps:List (List Nat)} {m:Nat} (h:PsOk ps m) (hi nu pl:Int):PsOk (iA hi nu pl ps) (m+1):=by
 unfold iA
 split
 ·refine⟨by simp,by have:=h.len;simp;lia,fun q hq=> ?_⟩
  rcases List.mem_append.mp hq with hq|hq
  ·have:=h.el q hq;lia
  ·have:q=[]:=by simpa using hq
   subst this
   simp
 ·refine aH (yA h.ne (xH hi nu (kY nu pl))) fun q e1 e2=> ?_
  rw [e2]
  have hq:q.length≤m:=h.el q (by rw [e1];simp)
  refine⟨by simp,by have:=h.len;rw [e1]at this;simp at this⊢;lia,fun p hp=> ?_⟩
  rcases List.mem_append.mp hp with hp|hp
  ·have:=h.el p (List.dropLast_subset _ hp);lia
  ·have:p=q++[xH hi nu (kY nu pl)]:=by simpa using hp
   subst this
   simp;lia
noncomputable def fW:Int:=10^(11:Int).toNat
noncomputable def gR:Int:=10^(6:Int).toNat
noncomputable def pK (c:Int) (ps:List (List Nat)):List (List Nat):=
 iA ((c.fmod fW).fdiv gR) ((c.fmod fW).fmod gR) 10000 (iA ((c.fmod fW).fdiv gR) ((c.fmod fW).fmod gR) 100 (iA ((c.fmod fW).fdiv gR) ((c.fmod fW).fmod gR) 1 ps))
noncomputable def bH (cells:List Int):List (List Nat):=(cells.take 6).foldl (fun ps c=>pK c ps) [[]]++[[97,91,98,32,99,93,91,93,100],[91,10,93,39,91],[93]]
theorem PsOk.cell {ps:List (List Nat)} {m:Nat} (h:PsOk ps m) (c:Int):PsOk (pK c ps) (m+3):=((h.step _ _ _).step _ _ _).step _ _ _
section
variable {K:Params→Frag} (hP:Prog2 K) {n:Nat} {cells:Fx} {ps:List (List Nat)} {hi nu c:Int} {sl:List Int}
include hP
noncomputable def obS (cells:Fx) (ps:List (List Nat)) (sl:List Int) (rest:List AO):List AO:=obP cells ps (.list (sl.map .isym)::rest)
theorem pU (k:Nat):(obS cells ps sl []).all (AO.below k)=true:=by
 have h1:∀l:List Int,(l.map AV.isym).all (AV.below k)=true:=fun l=>by rw [List.all_map];exact List.all_eq_true.mpr fun zz zz=>rfl
 have h2:∀l:List (List Nat),(l.map S).all (AV.below k)=true:=fun l=>by rw [List.all_map];exact List.all_eq_true.mpr fun zz zz=>rfl
 simp only [obS,obP,List.all_cons,List.all_nil,Bool.and_true,Bool.and_eq_true]
 exact⟨rfl,h2 _,h1 _⟩
theorem aRy:DoesS K (n+1) eW (aC eL 0) ⟨dP [("cell",.isym c)],obS cells ps sl []⟩ .next ⟨dP [("cell",.isym c),("high",.isym ((c.fmod fW).fdiv gR)),("number",.isym ((c.fmod fW).fmod gR))],obS cells ps sl []⟩:=by
 have e:∃p1 p2 k p e pos,aC eL 0= .Assign [.Tuple (dA [("high",p1),("number",p2)]) k p] e pos∧dY e=false∧swappedStores [.Tuple (dA [("high",p1),("number",p2)]) k p] e {(default:Env)with scope:=eW}=(pure none:Sem (Option (List Str)))∧e=wX (aC eL 0):=⟨_,_,_,_,_,_,rfl,by rfl,by kernel_rfl,rfl⟩
 refine aF fun gq hgq=> ?_
 refine aMg e fun p1 p2 k p e pos he hc hw ee=> ?_
 subst hgq
 rw [he]
 have hE:DoesE K (n+1) eW e ⟨dP [("cell",.isym c)],obS cells ps sl []⟩ (.obj 3) ⟨dP [("cell",.isym c)],obS cells ps sl [.tup [.isym ((c.fmod fW).fdiv gR),.isym ((c.fmod fW).fmod gR)]]⟩:=by
  rw [ee]
  exact aI (m:=20) (td:=[.c (.isym c) (obS cells ps sl []),.c (.obj 3) (obS cells ps sl [.tup [.isym ((c.fmod fW).fdiv gR),.isym ((c.fmod fW).fmod gR)]])])
   (obs:=[DoesCall K (n+1) (.type "int") [.isym c] [] (obS cells ps sl []) (.isym c) (obS cells ps sl []),0≤(11:Int)∧(11:Int)≤1000000∧(10:Int).natAbs<2^64,fW≠0,0≤(6:Int)∧(6:Int)≤1000000∧(10:Int).natAbs<2^64,
    DoesCall K (n+1) (.builtin "divmod") [.isym (c.fmod fW),.isym gR] [] (obS cells ps sl []) (.obj 3) (obS cells ps sl [.tup [.isym ((c.fmod fW).fdiv gR),.isym ((c.fmod fW).fmod gR)]])]) hP.tab (by kernel_rfl)
   (aA wR (aA (by decide) (aA (by decide) (aA (by decide) (aA (aD7 (objs:=obS cells ps sl []) (by decide) (by rfl)) all_nil)))))
 refine DoesS.forget (locm:=[]) (more:=[.tup [.isym ((c.fmod fW).fdiv gR),.isym ((c.fmod fW).fmod gR)]]) ?_ (by simp [obS,obP]) (by rfl) (pU hP _) rfl
 exact pF (ts:=[("high",p1),("number",p2)]) (xs:=[.isym ((c.fmod fW).fdiv gR),.isym ((c.fmod fW).fmod gR)]) hc hE rfl rfl (by kernel_rfl) hw
theorem aSu (hh:0≤hi) (hn:0≤nu) {m:Nat} (hm:m<900) (ho:PsOk ps m):DoesS K (n+1) eW (aC eL 1) ⟨dP [("cell",.isym c),("high",.isym hi),("number",.isym nu)],obS cells ps sl []⟩ .next
  ⟨dP [("cell",.isym c),("high",.isym hi),("number",.isym nu)],obS cells (iA hi nu 10000 (iA hi nu 100 (iA hi nu 1 ps))) sl []⟩:=by
 have q:∃p1 p2,aC eL 1= .For (.Name "place" p1) (fP (aC eL 1)) kL [] p2:=⟨_,_,rfl⟩
 refine iK q fun p1 p2 q=> ?_
 have hE:DoesE K (n+1) eW (fP (aC eL 1)) ⟨dP [("cell",.isym c),("high",.isym hi),("number",.isym nu)],obS cells ps sl []⟩ (.obj 3) ⟨dP [("cell",.isym c),("high",.isym hi),("number",.isym nu)],obS cells ps sl [.tup [.int 1,.int 100,.int 10000]]⟩:=
  aI (m:=20) (td:=[]) (obs:=[]) hP.tab (by kernel_rfl) all_nil
 have one:∀(pl:Int) (ps:List (List Nat)) (m:Nat),(pl=1∨pl=100∨pl=10000)→m<950→PsOk ps m→DoesB K (n+1) eW kL ⟨put "place" (.int pl) (dP [("cell",.isym c),("high",.isym hi),("number",.isym nu)]),obS cells ps sl [.tup [.int 1,.int 100,.int 10000]]⟩ .next
   ⟨dP [("cell",.isym c),("high",.isym hi),("number",.isym nu)],obS cells (iA hi nu pl ps) sl [.tup [.int 1,.int 100,.int 10000]]⟩:=fun pl ps m hpl hm ho=>by
  have h:=aMq hP (n:=n) (cells:=cells) (cv:=.isym c) (rest:=[.list (sl.map .isym),.tup [.int 1,.int 100,.int 10000]]) hpl hh hn ho.ne (by have:=ho.len;lia) (fun q hq=>by have:=ho.el q hq;lia)
  refine DoesB.forget (locm:=[("place",.int pl),("kind",.isym (kY nu pl))]) (more:=[]) ?_ (by simp [obS,obP]) (by rfl) ?_ rfl
  ·rw [List.append_nil]
   exact h
  ·have h1:∀l:List Int,(l.map AV.isym).all (AV.below 4)=true:=fun l=>by rw [List.all_map];exact List.all_eq_true.mpr fun zz zz=>rfl
   have h2:∀l:List (List Nat),(l.map S).all (AV.below 4)=true:=fun l=>by rw [List.all_map];exact List.all_eq_true.mpr fun zz zz=>rfl
   show(obP cells (iA hi nu pl ps) [.list (sl.map .isym),.tup [.int 1,.int 100,.int 10000]]).all (AO.below 4)=true
   simp only [obP,List.all_cons,List.all_nil,Bool.and_true,Bool.and_eq_true]
   exact⟨rfl,h2 _,h1 _,by rfl⟩
 rw [q]
 refine DoesS.forget (locm:=[]) (more:=[.tup [.int 1,.int 100,.int 10000]]) ?_ (by simp [obS,obP]) (by rfl) (pU hP _) rfl
 refine lX (good:=fun st'=>st'.objs[3]?=some (.tup [.int 1,.int 100,.int 10000])) (fun zz zz=>rfl) (by rw [aN];kernel_rfl) hE (aLk rfl) rfl ?_
 refine .cons (one 1 ps m (.inl rfl) (by lia) ho) rfl rfl (.cons (one 100 _ (m+1) (.inr (.inl rfl)) (by lia) (ho.step _ _ _)) rfl rfl (.cons (one 10000 _ (m+2) (.inr (.inr rfl)) (by lia) ((ho.step _ _ _).step _ _ _)) rfl rfl .nil))
theorem aQg {m:Nat} (hm:m<900) (ho:PsOk ps m):DoesB K (n+1) eW eL ⟨dP [("cell",.isym c)],obS cells ps sl []⟩ .next ⟨dP [],obS cells (pK c ps) sl []⟩:=by
 have q:eL=[aC eL 0,aC eL 1]:=by rfl
 have hb:0≤c.fmod fW:=Int.fmod_nonneg_of_pos _ (by decide)
 have h1:0≤(c.fmod fW).fdiv gR:=by
  rw [Int.fdiv_eq_ediv_of_nonneg _ (by decide)]
  exact Int.ediv_nonneg hb (by decide)
 have h2:0≤(c.fmod fW).fmod gR:=Int.fmod_nonneg_of_pos _ (by decide)
 rw [q]
 refine DoesB.forget (locm:=[("cell",.isym c),("high",.isym ((c.fmod fW).fdiv gR)),("number",.isym ((c.fmod fW).fmod gR))]) (more:=[]) ?_ (by simp [obS,obP]) (by rfl) (pU hP _) rfl
 rw [List.append_nil]
 exact bD (aRy hP) (bD (aSu hP h1 h2 hm ho) cM)
theorem aFv {good:AS→Prop} (hg:∀loc ps,good ⟨loc,obS cells ps sl []⟩):∀(cs:List Int) (ps:List (List Nat)) (m:Nat),m+3*cs.length<900→PsOk ps m→
  Turns K (n+1) eW "cell" eL good (cs.map .isym) ⟨dP [],obS cells ps sl []⟩ ⟨dP [],obS cells (cs.foldl (fun ps c=>pK c ps) ps) sl []⟩
 |[],ps,m,_,_=>.nil
 |c::cs,ps,m,hm,ho=>by
  rw [List.length_cons]at hm
  exact .cons (g:=.next) (aQg hP (c:=c) (by lia) ho) rfl (hg _ _) (aFv hg cs (pK c ps) (m+3) (by lia) (ho.cell c))
end
end Mine
end
section
namespace Mine
noncomputable def fixedP:List (List Nat):=[[97,91,98,32,99,93,91,93,100],[91,10,93,39,91],[93]]
noncomputable def kD (cells:List Int):List (List Nat):=(cells.take 6).foldl (fun ps c=>pK c ps) [[]]
theorem aBr (cells:List Int):bH cells=kD cells++fixedP:=rfl
theorem aGz:∀(cs:List Int) (ps:List (List Nat)) (m:Nat),PsOk ps m→PsOk (cs.foldl (fun ps c=>pK c ps) ps) (m+3*cs.length)
 |[],ps,m,h=>h
 |c::cs,ps,m,h=>by
  have:=aGz cs (pK c ps) (m+3) (h.cell c)
  rw [List.length_cons]
  have e:m+3*(cs.length+1)=m+3+3*cs.length:=by lia
  rw [e]
  exact this
theorem aCx (cells:List Int):PsOk (kD cells) 18:=by
 have h:=aGz (cells.take 6) [[]] 0 ⟨by simp,by simp,by simp⟩
 have hl:(cells.take 6).length≤6:=by rw [List.length_take];lia
 exact⟨h.ne,by have:=h.len;unfold kD;lia,fun q hq=>by have:=h.el q hq;lia⟩
theorem qS (cells:List Int):(bH cells).length≤22∧∀q∈bH cells,q.length≤18:=by
 have h:=aCx cells
 rw [aBr]
 refine⟨by rw [List.length_append];have:=h.len;show _+3≤22;lia,fun q hq=> ?_⟩
 rcases List.mem_append.mp hq with hq|hq
 ·exact h.el q hq
 ·have h:∀q∈fixedP,q.length≤18:=by decide
  exact h q hq
section
variable {K:Params→Frag} (hP:Prog2 K) {n:Nat} {cells:List Int} {fx:Fx}
include hP
noncomputable def jY (fx:Fx) (cells:List Int):List AO:=obS fx (kD cells) (cells.take 6) [.list (fixedP.map S),.list ((bH cells).map S)]
theorem wQ (hv:∀ρ,All2 (den ρ) (cells.map .isym) fx.vs) (hz:cells.length≤1000):DoesCall K (n+2) (.ref 771) [.obj 0] [] [.fix fx.vs fx.n] (.obj 4) (jY fx cells):=by
 have q:aO (aC aR 29)=[aC eS 0]++(aC eS 1::[aC eS 2]):=by kernel_rfl
 have h0:DoesB K (n+1) eW [aC eS 0] ⟨[("script",.obj 0)],[.fix fx.vs fx.n]⟩ .next ⟨dP [],obP fx [[]] []⟩:=
  DoesB.post (st₁:=⟨dP [],[.fix fx.vs fx.n,.list [.str ""]]⟩) (aB (m:=20) (k:=20) (td:=[]) (obs:=[]) hP.tab (by kernel_rfl) all_nil)
   ⟨FLe.refl _,.cons (AOle.refl _) (.cons (gN (.cons (dJ (by rfl)) .nil)) .nil)⟩
 have hF:DoesS K (n+1) eW (aC eS 1) ⟨dP [],obP fx [[]] []⟩ .next ⟨dP [],obS fx (kD cells) (cells.take 6) []⟩:=by
  have q:∃p1 p2,aC eS 1= .For (.Name "cell" p1) (fP (aC eS 1)) eL [] p2:=⟨_,_,rfl⟩
  refine iK q fun p1 p2 q=> ?_
  have hE:DoesE K (n+1) eW (fP (aC eS 1)) ⟨dP [],obP fx [[]] []⟩ (.obj 2) ⟨dP [],obS fx [[]] (cells.take 6) []⟩:=by
   have e:∃p1 hi p pos,fP (aC eS 1)= .Subscript (.Name "script" p1) (.Slice none (some hi) none p) pos∧hi=(kE 0 (kE 1 (fP (aC eS 1)))):=⟨_,_,_,_,rfl,rfl⟩
   refine aF fun gq hgq=> ?_
   refine yS e fun p1 hi p pos e eh=> ?_
   subst hgq
   rw [e]
   have:=mR (K:=K) (n:=n+1) (sc:=eW) (k:=0) (z:="script") (zp:=p1) (p:=p) (pos:=pos) (lo:=none) (hi:=some hi) (st:=⟨dP [],obP fx [[]] []⟩) (st₁:=⟨dP [],obP fx [[]] []⟩) (st₂:=⟨dP [],obP fx [[]] []⟩) (st₃:=⟨dP [],obP fx [[]] []⟩) (xs:=cells.map .isym) (ys:=(cells.take 6).map .isym) (jl:=none) (ju:=some 6)
    (aI (m:=3) (td:=[]) (obs:=[]) hP.tab (by kernel_rfl) all_nil) nN (nM (b:=.int 6) (by rw [eh];exact aI (m:=5) (td:=[]) (obs:=[]) hP.tab (by kernel_rfl) all_nil) rfl) (aJ3 rfl hv) ?_ (by simp only [List.length_map,sizeLine_eq];omega)
   ·exact this
   ·show some ((cells.map AV.isym).take 6)=_
    rw [List.map_take]
  rw [q]
  have T:=aFv hP (n:=n) (cells:=fx) (sl:=cells.take 6) (good:=fun st'=>st'.objs[2]?=some (.list ((cells.take 6).map .isym))) (fun zz zz=>rfl) (cells.take 6) [[]] 0 (by rw [List.length_take];omega) ⟨by simp,by simp,by simp⟩
  exact lX (fun zz zz=>rfl) (by rw [aN];kernel_rfl) hE (eH rfl) rfl T
 have hR:DoesB K (n+1) eW [aC eS 2] ⟨dP [],obS fx (kD cells) (cells.take 6) []⟩ (.ret (.obj 4)) ⟨dP [],jY fx cells⟩:=by
  have e:∃p1 o p pos,aC eS 2= .Return (some (.BinOp (.Name "patterns" p1) .Add o p)) pos∧o=aO5 (aKy (aC eS 2)):=⟨_,_,_,_,rfl,rfl⟩
  refine aF fun gq hgq=> ?_
  refine yS e fun p1 o p pos e eo=> ?_
  subst hgq
  rw [e]
  have ho:DoesE K (n+1) eW o ⟨dP [],obS fx (kD cells) (cells.take 6) []⟩ (.obj 3) ⟨dP [],obS fx (kD cells) (cells.take 6) [.list [.str (mkS [97,91,98,32,99,93,91,93,100]),.str (mkS [91,10,93,39,91]),.str (mkS [93])]]⟩:=by
   rw [eo]
   exact aI (m:=5) (td:=[]) (obs:=[]) hP.tab (by kernel_rfl) all_nil
  have hA:=uZ (K:=K) (n:=n+1) (sc:=eW) (pos:=p) (k:=1) (k':=3) (o:=.Name "patterns" p1) (o':=o) (st:=⟨dP [],obS fx (kD cells) (cells.take 6) []⟩) (st₁:=⟨dP [],obS fx (kD cells) (cells.take 6) []⟩) (xs:=(kD cells).map S) (ys:=[.str (mkS [97,91,98,32,99,93,91,93,100]),.str (mkS [91,10,93,39,91]),.str (mkS [93])])
   (aI (m:=3) (td:=[]) (obs:=[]) hP.tab (by kernel_rfl) all_nil) ho rfl rfl (by have:=(aCx cells).len;rw [List.length_map,sizeLine_eq];show _+3≤_;omega)
  have hA2:DoesB K (n+1) eW [.Return (some (.BinOp (.Name "patterns" p1) .Add o p)) pos] ⟨dP [],obS fx (kD cells) (cells.take 6) []⟩ (.ret (.obj 4)) _:=jR (gI hA) (by intro h;cases h)
  refine DoesB.post hA2 ⟨FLe.refl _, ?_⟩
  have f:All2 AVle [.str (mkS [97,91,98,32,99,93,91,93,100]),.str (mkS [91,10,93,39,91]),.str (mkS [93])] (fixedP.map S):=.cons (dJ rfl) (.cons (dJ rfl) (.cons (dJ rfl) .nil))
  refine .cons (AOle.refl _) (.cons (AOle.refl _) (.cons (AOle.refl _) (.cons (gN f) (.cons (gN ?_) .nil))))
  rw [aBr,List.map_append]
  exact(bG AVle.refl _).append f
 refine bZ hP.f771.fn (hb1 hP.b771) (by kernel_rfl) (bI (by kernel_rfl)) (fl:=.ret (.obj 4)) (loc':=dP []) ?_ rfl
 rw [q]
 exact bP h0 (bD hF hR)
end
end Mine
end
section
namespace Mine
noncomputable def eU:Scope:=bC (aC aR 33)
noncomputable def dZ:List Stmt:=aO (aC aR 33)
noncomputable def cE:List Stmt:=aO (aC dZ 2)
noncomputable def t1T (met:Bool) (ts:List (List Nat)):List (List Nat):=if met then ts.dropLast++[[93,91]]else ts++[[91]]
noncomputable def nz (s:List Nat):Bool:=match s with|[]=>false|_=>true
noncomputable def mE (met:Bool) (ts:List (List Nat)) (q:List Nat):List (List Nat):=
 let t2:=t1T met ts++[(bN 57345 q).1]
 let t3:=if nz (bN 57345 q).2.1 then t2++[[93]]else t2
 if nz (bN 57345 q).2.2 then t3++[(bN 57345 q).2.2]else t3
noncomputable def tW (q:List Nat):Bool:=nz (bN 57345 q).2.1&& !nz (bN 57345 q).2.2
noncomputable def eG (l:List Nat) (m:Bool) (more:List (Str×AV)):List (Str×AV):=("meant",S l)::("chunks",.obj 0)::("met",.bool m)::("tokens",.obj 1)::more
noncomputable def ob7 (cs ts:List (List Nat)) (rest:List AO):List AO:=.list (cs.map S):: .list (ts.map S)::rest
theorem aGk (s:List Nat):(match(mkS s).cps.toList with|[]=>false|_=>true)=nz s:=by cases s<;>rfl
theorem aOk (s:List Nat):sEq (mkS s) ""= !nz s:=by
 cases s with
 |nil=>rfl
 |cons a s=>rw [sEq_ne.mpr];rfl;intro q;cases congrArg (fun s:Str=>s.cps.toList) q
section
variable {K:Params→Frag} (hP:Prog2 K) {n:Nat} {l q a s b:List Nat} {cs ts:List (List Nat)} {rest:List AO} {m:Bool}
include hP
noncomputable def eK (l:List Nat) (m:Bool) (q a s b:List Nat):List (Str×AV):=eG l m [("chunk",S q),("inside",S a),("shut",S s),("behind",S b)]
theorem uE {x:AV} {v:List Nat} (h:AVle x (S v)):StLe ⟨eK l m q a s b,.list (cs.map S):: .list (ts.map S++[x])::rest⟩ ⟨eK l m q a s b,ob7 cs (ts++[v]) rest⟩:=by
 refine⟨FLe.refl _,.cons (AOle.refl _) (.cons (gN ?_) (bG AOle.refl _))⟩
 rw [List.map_append]
 exact(bG AVle.refl _).append (.cons h .nil)
theorem aH3 {x:AV} (hl:ts.length<100000):DoesCall K (n+1) (.builtin "list.append") [.obj 1,x] [] (ob7 cs ts rest) .none (.list (cs.map S):: .list (ts.map S++[x])::rest):=
 dV (k:=1) (xs:=ts.map S) rfl (by rw [List.length_map,sizeLine_eq];lia)
theorem tk0 (hz:q.length<1000000):DoesS K (n+1) eU (aC cE 0) ⟨eG l m [("chunk",S q)],ob7 cs ts rest⟩ .next ⟨eK l m q (bN 57345 q).1 (bN 57345 q).2.1 (bN 57345 q).2.2,ob7 cs ts rest++[.tup [S (bN 57345 q).1,S (bN 57345 q).2.1,S (bN 57345 q).2.2]]⟩:=by
 have e:∃p1 p2 p3 k p e pos,aC cE 0= .Assign [.Tuple (dA [("inside",p1),("shut",p2),("behind",p3)]) k p] e pos∧dY e=false∧swappedStores [.Tuple (dA [("inside",p1),("shut",p2),("behind",p3)]) k p] e {(default:Env)with scope:=eU}=(pure none:Sem (Option (List Str)))∧e=wX (aC cE 0):=⟨_,_,_,_,_,_,_,rfl,by rfl,by kernel_rfl,rfl⟩
 refine aF fun gq hgq=> ?_
 refine aQm e fun p1 p2 p3 k p e pos he hc hw ee=> ?_
 subst hgq
 rw [he]
 have hE:DoesE K (n+1) eU e ⟨eG l m [("chunk",S q)],ob7 cs ts rest⟩ (.obj (ob7 cs ts rest).length) ⟨eG l m [("chunk",S q)],ob7 cs ts rest++[.tup [S (bN 57345 q).1,S (bN 57345 q).2.1,S (bN 57345 q).2.2]]⟩:=by
  rw [ee]
  exact aI (m:=20) (td:=[.c (.obj (ob7 cs ts rest).length) (ob7 cs ts rest++[.tup [S (bN 57345 q).1,S (bN 57345 q).2.1,S (bN 57345 q).2.2]])])
   (obs:=[DoesCall K (n+1) (.builtin "str.partition") [S q,.str (mkS [57345])] [] (ob7 cs ts rest) (.obj (ob7 cs ts rest).length) (ob7 cs ts rest++[.tup [S (bN 57345 q).1,S (bN 57345 q).2.1,S (bN 57345 q).2.2]])]) hP.tab (by kernel_rfl)
   (aA (nQ rfl hz) all_nil)
 have h:=pF (ts:=[("inside",p1),("shut",p2),("behind",p3)]) (xs:=[S (bN 57345 q).1,S (bN 57345 q).2.1,S (bN 57345 q).2.2]) (pos:=pos) hc hE (by simp) rfl (by kernel_rfl) hw
 exact h
theorem tk1 (hm:m=true→ts≠ []) (hl:ts.length<100000):DoesB K (n+1) eU [aC cE 1] ⟨eK l m q a s b,ob7 cs ts rest⟩ .next ⟨eK l m q a s b,ob7 cs (t1T m ts) rest⟩:=by
 cases m with
 |false=>
  show DoesB K (n+1) eU [aC cE 1] _ .next ⟨eK l false q a s b,ob7 cs (ts++[[91]]) rest⟩
  exact DoesB.post (aB (m:=20) (k:=20) (td:=[.c .none (.list (cs.map S):: .list (ts.map S++[.str (mkS [91])])::rest)])
   (obs:=[DoesCall K (n+1) (.builtin "list.append") [.obj 1,.str (mkS [91])] [] (ob7 cs ts rest) .none (.list (cs.map S):: .list (ts.map S++[.str (mkS [91])])::rest)]) hP.tab (by kernel_rfl) (aA (aH3 hP hl) all_nil)) (uE hP (dJ rfl))
 |true=>
  have hne:=hm rfl
  have e1:ts=ts.dropLast++[ts.getLast hne]:=(List.dropLast_concat_getLast hne).symm
  have hS:DoesS K (n+1) eU (aC (aO (aC cE 1)) 0) ⟨eK l true q a s b,ob7 cs ts rest⟩ .next ⟨eK l true q a s b,.list (cs.map S):: .list (ts.dropLast.map S++[.str (mkS [93,91])])::rest⟩:=by
   have e:∃p1 p2 p3 p4 k1 e p5,aC (aO (aC cE 1)) 0= .Assign [.Subscript (.Name "tokens" p1) (.UnaryOp .USub (.Constant (.int 1) k1 p2) p3) p4] e p5∧dY e=false∧e=wX (aC (aO (aC cE 1)) 0):=⟨_,_,_,_,_,_,_,rfl,by rfl,rfl⟩
   refine aF fun gq hgq=> ?_
   refine aS3 e fun p1 p2 p3 p4 k1 e p5 he hc ee=> ?_
   subst hgq
   rw [he]
   refine wG (K:=K) (n:=n+1) (sc:=eU) (k:=1) (xs:=ts.dropLast.map S) (a:=S (ts.getLast hne)) (st:=⟨eK l true q a s b,ob7 cs ts rest⟩) (st₁:=⟨eK l true q a s b,ob7 cs ts rest⟩) (st₂:=⟨eK l true q a s b,ob7 cs ts rest⟩) (st₃:=⟨eK l true q a s b,ob7 cs ts rest⟩) (v:=.str (mkS [93,91])) hc (by rw [ee];exact aI (m:=5) (td:=[]) (obs:=[]) hP.tab (by kernel_rfl) all_nil) (aI (m:=3) (td:=[]) (obs:=[]) hP.tab (by kernel_rfl) all_nil) (aI (m:=3) (td:=[]) (obs:=[]) hP.tab (by kernel_rfl) all_nil) ?_
   show some (AO.list (ts.map S))=_
   conv=>lhs;rw [e1]
   rw [List.map_append]
   rfl
  refine DoesB.post (st₁:=⟨eK l true q a s b,.list (cs.map S):: .list (ts.dropLast.map S++[.str (mkS [93,91])])::rest⟩) (aB (m:=20) (k:=20) (td:=[.s .next ⟨eK l true q a s b,.list (cs.map S):: .list (ts.dropLast.map S++[.str (mkS [93,91])])::rest⟩])
   (obs:=[DoesS K (n+1) eU (aC (aO (aC cE 1)) 0) ⟨eK l true q a s b,ob7 cs ts rest⟩ .next ⟨eK l true q a s b,.list (cs.map S):: .list (ts.dropLast.map S++[.str (mkS [93,91])])::rest⟩]) hP.tab (by kernel_rfl) (aA hS all_nil)) ?_
  show StLe _ ⟨eK l true q a s b,ob7 cs (ts.dropLast++[[93,91]]) rest⟩
  exact uE hP (dJ rfl)
theorem tk2 (hl:ts.length<100000):DoesB K (n+1) eU [aC cE 2] ⟨eK l m q a s b,ob7 cs ts rest⟩ .next ⟨eK l m q a s b,ob7 cs (ts++[a]) rest⟩:=
 DoesB.post (aB (m:=20) (k:=20) (td:=[.c .none (.list (cs.map S):: .list (ts.map S++[S a])::rest)])
  (obs:=[DoesCall K (n+1) (.builtin "list.append") [.obj 1,S a] [] (ob7 cs ts rest) .none (.list (cs.map S):: .list (ts.map S++[S a])::rest)]) hP.tab (by kernel_rfl) (aA (aH3 hP hl) all_nil)) (uE hP (AVle.refl _))
theorem tk3 (hl:ts.length<100000):DoesB K (n+1) eU [aC cE 3] ⟨eK l m q a s b,ob7 cs ts rest⟩ .next ⟨eK l m q a s b,ob7 cs (if nz s then ts++[[93]]else ts) rest⟩:=by
 have hb:=aGk s
 cases hs:nz s with
 |true=>
  rw [hs]at hb
  rw [if_pos rfl]
  exact DoesB.post (aB (m:=20) (k:=20) (td:=[.b true,.c .none (.list (cs.map S):: .list (ts.map S++[.str (mkS [93])])::rest)])
   (obs:=[(match(mkS s).cps.toList with|[]=>false|_=>true)=true,DoesCall K (n+1) (.builtin "list.append") [.obj 1,.str (mkS [93])] [] (ob7 cs ts rest) .none (.list (cs.map S):: .list (ts.map S++[.str (mkS [93])])::rest)]) hP.tab (by kernel_rfl) (aA hb (aA (aH3 hP hl) all_nil))) (uE hP (dJ rfl))
 |false=>
  rw [hs]at hb
  rw [if_neg (by decide)]
  exact aB (m:=20) (k:=20) (td:=[.b false]) (obs:=[(match(mkS s).cps.toList with|[]=>false|_=>true)=false]) hP.tab (by kernel_rfl) (aA hb all_nil)
theorem tk4 (hl:ts.length<100000):DoesB K (n+1) eU [aC cE 4] ⟨eK l m q a s b,ob7 cs ts rest⟩ .next ⟨eK l m q a s b,ob7 cs (if nz b then ts++[b]else ts) rest⟩:=by
 have hb:=aGk b
 cases hs:nz b with
 |true=>
  rw [hs]at hb
  rw [if_pos rfl]
  exact DoesB.post (aB (m:=20) (k:=20) (td:=[.b true,.c .none (.list (cs.map S):: .list (ts.map S++[S b])::rest)])
   (obs:=[(match(mkS b).cps.toList with|[]=>false|_=>true)=true,DoesCall K (n+1) (.builtin "list.append") [.obj 1,S b] [] (ob7 cs ts rest) .none (.list (cs.map S):: .list (ts.map S++[S b])::rest)]) hP.tab (by kernel_rfl) (aA hb (aA (aH3 hP hl) all_nil))) (uE hP (AVle.refl _))
 |false=>
  rw [hs]at hb
  rw [if_neg (by decide)]
  exact aB (m:=20) (k:=20) (td:=[.b false]) (obs:=[(match(mkS b).cps.toList with|[]=>false|_=>true)=false]) hP.tab (by kernel_rfl) (aA hb all_nil)
theorem tk5:DoesS K (n+1) eU (aC cE 5) ⟨eK l m q a s b,ob7 cs ts rest⟩ .next ⟨eK l (nz s&& !nz b) q a s b,ob7 cs ts rest⟩:=by
 have e:∃p1 e1 e2 p2 p3,aC cE 5= .Assign [.Name "met" p1] (.BoolOp .And [e1,e2] p2) p3∧e1=(kE 0 (wX (aC cE 5)))∧e2=(kE 1 (wX (aC cE 5))):=⟨_,_,_,_,_,rfl,rfl,rfl⟩
 refine aF fun gq hgq=> ?_
 refine aH8 e fun p1 e1 e2 p2 p3 he h1 h2=> ?_
 subst hgq
 rw [he]
 have k1:DoesE K (n+1) eU e1 ⟨eK l m q a s b,ob7 cs ts rest⟩ (.bool (nz s)) ⟨eK l m q a s b,ob7 cs ts rest⟩:=by
  rw [h1]
  have hb:=aOk s
  cases hs:nz s with
  |true=>rw [hs]at hb;exact aI (m:=20) (td:=[.b false]) (obs:=[sEq (mkS s) ""=false]) hP.tab (by kernel_rfl) (aA hb all_nil)
  |false=>rw [hs]at hb;exact aI (m:=20) (td:=[.b true]) (obs:=[sEq (mkS s) ""=true]) hP.tab (by kernel_rfl) (aA hb all_nil)
 have k2:DoesE K (n+1) eU e2 ⟨eK l m q a s b,ob7 cs ts rest⟩ (.bool (!nz b)) ⟨eK l m q a s b,ob7 cs ts rest⟩:=by
  rw [h2]
  have hb:=aOk b
  cases hs:nz b with
  |true=>rw [hs]at hb;exact aI (m:=20) (td:=[.b false]) (obs:=[sEq (mkS b) ""=false]) hP.tab (by kernel_rfl) (aA hb all_nil)
  |false=>rw [hs]at hb;exact aI (m:=20) (td:=[.b true]) (obs:=[sEq (mkS b) ""=true]) hP.tab (by kernel_rfl) (aA hb all_nil)
 refine pG (st₁:=⟨eK l m q a s b,ob7 cs ts rest⟩) (v:=.bool (nz s&& !nz b)) (by rfl) (by rw [aN];kernel_rfl) (aJj k1 (fun h=> ?_) (fun h=> ?_))
 ·rw [h,Bool.true_and];exact k2
 ·rw [h,Bool.false_and];exact⟨rfl,rfl⟩
end
end Mine
end
section
namespace Mine
noncomputable def cO:List (List Nat)→Bool→List (List Nat)→List (List Nat)
 |[],_,ts=>ts
 |q::qs,m,ts=>cO qs (tW q) (mE m ts q)
noncomputable def pZ:List (List Nat)→Bool→Bool
 |[],m=>m
 |q::qs,_=>pZ qs (tW q)
noncomputable def cG (c:List Nat):List (List Nat):=if nz c then [c]else []
noncomputable def aV (l:List Nat):List (List Nat):=match aD 57344 l with
 |c::qs=>cO qs false (cG c)
 |[]=>[]
theorem aAs (m:Bool) (ts:List (List Nat)) (q:List Nat):(mE m ts q).length≤ts.length+4:=by
 unfold mE t1T
 dsimp only
 cases m<;>cases nz (bN 57345 q).2.1<;>cases nz (bN 57345 q).2.2<;>simp<;>lia
theorem aMu (m:Bool) (ts:List (List Nat)) (q:List Nat):mE m ts q≠ []:=by
 unfold mE t1T
 dsimp only
 cases m<;>cases nz (bN 57345 q).2.1<;>cases nz (bN 57345 q).2.2<;>simp
theorem xE (c:List Nat):(cG c).length≤1:=by
 unfold cG
 split<;>simp
section
variable {K:Params→Frag} (hP:Prog2 K) {n:Nat} {l q a s b:List Nat} {cs ts:List (List Nat)} {sl:List (List Nat)} {m:Bool}
include hP
theorem aIm (k:Nat):(ob7 cs ts [.list (sl.map S)]).all (AO.below k)=true:=by
 have h2:∀l:List (List Nat),(l.map S).all (AV.below k)=true:=fun l=>by rw [List.all_map];exact List.all_eq_true.mpr fun zz zz=>rfl
 simp only [ob7,List.all_cons,List.all_nil,Bool.and_true,Bool.and_eq_true]
 exact⟨h2 _,h2 _,h2 _⟩
theorem aMp (hz:q.length<1000000) (hm:m=true→ts≠ []) (hl:ts.length<90000):DoesB K (n+1) eU cE ⟨eG l m [("chunk",S q)],ob7 cs ts [.list (sl.map S)]⟩ .next ⟨eG l (tW q) [],ob7 cs (mE m ts q) [.list (sl.map S)]⟩:=by
 have e:cE=aC cE 0::([aC cE 1]++([aC cE 2]++([aC cE 3]++([aC cE 4]++[aC cE 5])))):=by rfl
 rw [e]
 have h0:=tk0 hP (n:=n) (l:=l) (q:=q) (m:=m) (cs:=cs) (ts:=ts) (rest:=[.list (sl.map S)]) hz
 refine DoesB.forget (locm:=[("chunk",S q),("inside",S (bN 57345 q).1),("shut",S (bN 57345 q).2.1),("behind",S (bN 57345 q).2.2)]) (more:=[.tup [S (bN 57345 q).1,S (bN 57345 q).2.1,S (bN 57345 q).2.2]]) ?_ (Nat.le_refl _) (by rfl) (aIm hP _) rfl
 unfold mE tW
 dsimp only
 generalize (bN 57345 q).1=a at*
 generalize (bN 57345 q).2.1=s at*
 generalize (bN 57345 q).2.2=b at*
 have l1:(t1T m ts).length≤ts.length+1:=by unfold t1T;cases m<;>simp
 have l3:(if nz s then t1T m ts++[a]++[[93]]else t1T m ts++[a]).length≤ts.length+3:=by split<;>simp<;>lia
 exact bD h0 (bP (tk1 hP hm (by lia)) (bP (tk2 hP (by lia)) (bP (tk3 hP (by simp;lia)) (bP (tk4 hP (by lia)) (bD (tk5 hP) cM)))))
theorem aAo {good:AS→Prop} (hg:∀loc ts,good ⟨loc,ob7 cs ts [.list (sl.map S)]⟩):∀(qs:List (List Nat)) (m:Bool) (ts:List (List Nat)),(∀q∈qs,q.length<1000000)→(m=true→ts≠ [])→ts.length+4*qs.length<90000→
  Turns K (n+1) eU "chunk" cE good (qs.map S) ⟨eG l m [],ob7 cs ts [.list (sl.map S)]⟩ ⟨eG l (pZ qs m) [],ob7 cs (cO qs m ts) [.list (sl.map S)]⟩
 |[],m,ts,_,_,_=>.nil
 |q::qs,m,ts,hq,hm,hl=>by
  rw [List.length_cons]at hl
  have:=aAs m ts q
  exact .cons (g:=.next) (aMp hP (hq q (.head _)) hm (by lia)) rfl (hg _ _) (aAo hg qs (tW q) (mE m ts q) (fun p hp=>hq p (.tail _ hp)) (fun zz=>aMu m ts q) (by lia))
noncomputable def tkE:Expr:=wX (aC dZ 1)
noncomputable def aPa:Expr:=kE 0 (kE 0 tkE)
noncomputable def aR0:Expr:=kE 0 (kE 1 (kE 0 tkE))
theorem aGt {e:Expr} {c:List Nat} {qs:List (List Nat)} (he:∃p1 p2 k p4,e= .Subscript (.Name "chunks" p1) (.Constant (.int 0) k p2) p4) (hl:qs.length<100000):DoesE K (n+1) eU e ⟨[("meant",S l),("chunks",.obj 0)],[.list ((c::qs).map S)]⟩ (S c) ⟨[("meant",S l),("chunks",.obj 0)],[.list ((c::qs).map S)]⟩:=by
 refine aF fun gq hgq=> ?_
 refine aJv he fun p1 p2 k p4 q4_=> ?_;subst q4_
 subst hgq
 exact uY (k:=0) (b:=.int 0) (j:=0) (st₁:=⟨[("meant",S l),("chunks",.obj 0)],[.list ((c::qs).map S)]⟩) (xs:=(c::qs).map S) (by intros;exact nofun) (aI (m:=3) (td:=[]) (obs:=[]) hP.tab (by kernel_rfl) all_nil) (aI (m:=3) (td:=[]) (obs:=[]) hP.tab (by kernel_rfl) all_nil) rfl rfl rfl (by rw [List.length_map,List.length_cons];lia)
theorem aKk {c:List Nat} {qs:List (List Nat)} (hl:qs.length<100000):DoesS K (n+1) eU (aC dZ 1) ⟨[("meant",S l),("chunks",.obj 0)],[.list ((c::qs).map S)]⟩ .next ⟨eG l false [],ob7 (c::qs) (cG c) []⟩:=by
 have e:∃p1 p2 k p e pos,aC dZ 1= .Assign [.Tuple (dA [("tokens",p1),("met",p2)]) k p] e pos∧dY e=false∧swappedStores [.Tuple (dA [("tokens",p1),("met",p2)]) k p] e {(default:Env)with scope:=eU}=(pure (some [("tokens":Str),("met":Str)]):Sem (Option (List Str)))∧e=tkE:=⟨_,_,_,_,_,_,rfl,by rfl,by kernel_rfl,rfl⟩
 refine aF fun gq hgq=> ?_
 refine aMg e fun p1 p2 k p e pos he hc hw ee=> ?_
 subst hgq
 rw [he]
 have i1:=aGt hP (n:=n) (l:=l) (e:=aPa) (c:=c) (qs:=qs) ⟨_,_,_,_,rfl⟩ hl
 have i2:=aGt hP (n:=n) (l:=l) (e:=aR0) (c:=c) (qs:=qs) ⟨_,_,_,_,rfl⟩ hl
 have hE:DoesE K (n+1) eU e ⟨[("meant",S l),("chunks",.obj 0)],[.list ((c::qs).map S)]⟩ (.obj 2) ⟨[("meant",S l),("chunks",.obj 0)],[.list ((c::qs).map S),.list ((cG c).map S),.tup [.obj 1,.bool false]]⟩:=by
  rw [ee]
  have hb:=aGk c
  unfold cG
  cases hs:nz c with
  |true=>
   rw [hs]at hb
   rw [if_pos rfl]
   exact aI (m:=20) (td:=[.e (S c) ⟨[("meant",S l),("chunks",.obj 0)],[.list ((c::qs).map S)]⟩,.b true,.e (S c) ⟨[("meant",S l),("chunks",.obj 0)],[.list ((c::qs).map S)]⟩])
    (obs:=[DoesE K (n+1) eU aPa ⟨[("meant",S l),("chunks",.obj 0)],[.list ((c::qs).map S)]⟩ (S c) ⟨[("meant",S l),("chunks",.obj 0)],[.list ((c::qs).map S)]⟩,(match(mkS c).cps.toList with|[]=>false|_=>true)=true,
     DoesE K (n+1) eU aR0 ⟨[("meant",S l),("chunks",.obj 0)],[.list ((c::qs).map S)]⟩ (S c) ⟨[("meant",S l),("chunks",.obj 0)],[.list ((c::qs).map S)]⟩]) hP.tab (by kernel_rfl) (aA i1 (aA hb (aA i2 all_nil)))
  |false=>
   rw [hs]at hb
   rw [if_neg (by decide)]
   exact aI (m:=20) (td:=[.e (S c) ⟨[("meant",S l),("chunks",.obj 0)],[.list ((c::qs).map S)]⟩,.b false])
    (obs:=[DoesE K (n+1) eU aPa ⟨[("meant",S l),("chunks",.obj 0)],[.list ((c::qs).map S)]⟩ (S c) ⟨[("meant",S l),("chunks",.obj 0)],[.list ((c::qs).map S)]⟩,(match(mkS c).cps.toList with|[]=>false|_=>true)=false]) hP.tab (by kernel_rfl) (aA i1 (aA hb all_nil))
 have h1:=iQ (ts:=[("tokens",p1),("met",p2)]) (xs:=[.obj 1,.bool false]) (pos:=pos) hc hE rfl rfl (by kernel_rfl) hw
 refine DoesS.forget (locm:=[]) (more:=[.tup [.obj 1,.bool false]]) ?_ (by simp [ob7]) (by rfl) ?_ rfl
 ·exact h1
 ·have h2:∀l:List (List Nat),(l.map S).all (AV.below 2)=true:=fun l=>by rw [List.all_map];exact List.all_eq_true.mpr fun zz zz=>rfl
  show(ob7 (c::qs) (cG c) []).all (AO.below 2)=true
  simp only [ob7,List.all_cons,List.all_nil,Bool.and_true,Bool.and_eq_true]
  exact⟨h2 (c::qs),h2 _⟩
theorem aD4 (hz:l.length<20000):DoesCall K (n+2) (.ref 799) [S l] [] [] (.obj 1) [.list ((aD 57344 l).map S),.list ((aV l).map S),.list ((aD 57344 l).tail.map S)]:=by
 have hlen:=eZ 57344 l
 have hmem:=iU 57344 l
 unfold aV
 have h0:DoesB K (n+1) eU [aC dZ 0] ⟨[("meant",S l)],[]⟩ .next ⟨[("meant",S l),("chunks",.obj 0)],[.list ((aD 57344 l).map S)]⟩:=
  aB (m:=20) (k:=20) (td:=[.c (.obj 0) [.list ((aD 57344 l).map S)]]) (obs:=[DoesCall K (n+1) (.builtin "str.split") [S l,.str (mkS [57344])] [] [] (.obj 0) [.list ((aD 57344 l).map S)]]) hP.tab (by kernel_rfl) (aA (lF (objs:=[]) rfl (by omega)) all_nil)
 cases e:aD 57344 l with
 |nil=>exact absurd e (bR _ _)
 |cons c qs=>
  rw [e]at h0 hlen hmem
  rw [List.length_cons]at hlen
  have hF:DoesS K (n+1) eU (aC dZ 2) ⟨eG l false [],ob7 (c::qs) (cG c) []⟩ .next ⟨eG l (pZ qs false) [],ob7 (c::qs) (cO qs false (cG c)) [.list (qs.map S)]⟩:=by
   have q:∃p1 p2,aC dZ 2= .For (.Name "chunk" p1) (fP (aC dZ 2)) cE [] p2:=⟨_,_,rfl⟩
   refine iK q fun p1 p2 q=> ?_
   have hE:DoesE K (n+1) eU (fP (aC dZ 2)) ⟨eG l false [],ob7 (c::qs) (cG c) []⟩ (.obj 2) ⟨eG l false [],ob7 (c::qs) (cG c) [.list (qs.map S)]⟩:=by
    have e:∃p1 lo p pos,fP (aC dZ 2)= .Subscript (.Name "chunks" p1) (.Slice (some lo) none none p) pos∧lo=(kE 0 (kE 1 (fP (aC dZ 2)))):=⟨_,_,_,_,rfl,rfl⟩
    refine aF fun gq hgq=> ?_
    refine yS e fun p1 lo p pos e eh=> ?_
    subst hgq
    rw [e]
    exact pI (K:=K) (n:=n+1) (sc:=eU) (k:=0) (z:="chunks") (zp:=p1) (p:=p) (pos:=pos) (lo:=some lo) (hi:=none) (st:=⟨eG l false [],ob7 (c::qs) (cG c) []⟩) (st₁:=⟨eG l false [],ob7 (c::qs) (cG c) []⟩) (st₂:=⟨eG l false [],ob7 (c::qs) (cG c) []⟩) (st₃:=⟨eG l false [],ob7 (c::qs) (cG c) []⟩) (xs:=(c::qs).map S) (ys:=qs.map S) (jl:=some 1) (ju:=none)
     (aI (m:=3) (td:=[]) (obs:=[]) hP.tab (by kernel_rfl) all_nil) (nM (b:=.int 1) (by rw [eh];exact aI (m:=5) (td:=[]) (obs:=[]) hP.tab (by kernel_rfl) all_nil) rfl) nN rfl rfl (by simp only [List.length_map,List.length_cons,sizeLine_eq];omega)
   rw [q]
   have T:=aAo hP (n:=n) (l:=l) (cs:=c::qs) (sl:=qs) (good:=fun st'=>st'.objs[2]?=some (.list (qs.map S))) (fun zz zz=>rfl) qs false (cG c) (fun q hq=>by have:=hmem q (.tail _ hq);omega) (fun h=>by cases h) (by have h1:=xE c;omega)
   exact lX (fun zz zz=>rfl) (by rw [aN];kernel_rfl) hE (eH rfl) rfl T
  have hR:DoesB K (n+1) eU [aC dZ 3] ⟨eG l (pZ qs false) [],ob7 (c::qs) (cO qs false (cG c)) [.list (qs.map S)]⟩ (.ret (.obj 1)) ⟨eG l (pZ qs false) [],ob7 (c::qs) (cO qs false (cG c)) [.list (qs.map S)]⟩:=
   aB (m:=20) (k:=20) (td:=[]) (obs:=[]) hP.tab (by kernel_rfl) all_nil
  refine bZ hP.f799.fn (hb1 hP.b799) (by kernel_rfl) (bI (by kernel_rfl)) (fl:=.ret (.obj 1)) (loc':=eG l (pZ qs false) []) ?_ rfl
  have q:aO (aC aR 33)=[aC dZ 0]++(aC dZ 1::aC dZ 2::[aC dZ 3]):=by kernel_rfl
  rw [q]
  exact bP h0 (bD (aKk hP (by omega)) (bD hF hR))
end
end Mine
end
section
set_option maxHeartbeats 4000000
namespace Mine
open Builtin Builtin.ObjectAttr Builtin.Getset_descriptor
section
variable {prog:Program} {w:World} {A:Around} {R:Result→Shared→Prop} {s:Shared} {K:Frag} {C:Addr} {h:Heap} {g:Array GenState} {d:Drawn} {t:Nat} {os:OsState}
theorem eV {id:String} {args:Args} {b:Builtin} (hne:(id=="gc.ask")=false) (hq:(Code.builtin id args).quiet=true) (hb:entryFor table id=some b)
  (h:wpAny (aP prog w) A.in1 (checkBuiltinCall id args) (fun zz s₁=>wpAny (aP prog w) (A.under (.builtin id args)) (b args)
   (fun fin s'=>match fin with| .done f=>R (.ok f) s'| .again c'=>c'.quiet=true∧codeAny (aP prog w) A c' R s') (fun e s'=>R (.error e) s') s₁)
   (fun e s'=>R (.error e) s') s):codeAny (aP prog w) A (.call (.builtin id) args) R s:=by
 refine codeAny_of_tree ?_
 show wpAny _ A.in1 (callAny (.builtin id) args) _ _ s
 simp only [callAny]
 exact wpAny_bind (wpAny_mono h (fun zz s₁ h₁=>wpAny_pure ⟨hq,cD hne hb h₁⟩) fun zz zz e=>e)
theorem aEv {rest:List Value} {kw:List (Str×Value)} {init:Value} (Y:Makes (aP prog w) h C) (Y0:Makes (model prog w) h C) (hi0:Looks (model prog w) h (typeLookup (.ref C) "__init__") (some init)) (hi:Looks (aP prog w) h (typeLookup (.ref C) "__init__") (some init))
  (hb:∀self,Looks (aP prog w) h (bindSpecial init self) (init,[self])) (hne:(some init !=some (Value.builtin "object.__init__"))=true∨(rest=[]∧kw=[]))
  (hq:codeAny (aP prog w) (A.under (.builtin "type.__call__" ⟨.ref C::rest,kw⟩)) (.call init ⟨.ref (h.objs.size+1)::rest,kw⟩) (InitBack (h.objs.size+1) R) ⟨(h.push emptyDict).push (instObj C h.objs.size),g,d,t,os⟩):
  codeAny (aP prog w) A (.call (.ref C) ⟨rest,kw⟩) R ⟨h,g,d,t,os⟩:=by
 have Y':=Y
 refine aF fun gq hgq=> ?_
 obtain⟨⟨oc,od,cd,sl,hC,e1,e2,e4⟩,made,base,self,top,call,typ⟩:=Y
 subst hgq
 refine codeAny_of_tree ?_
 show wpAny _ _ (callAny (.ref C) _) _ _ _
 refine nd_load hC ?_
 show wpAny _ _ (callAny.viaDunder (.ref C) _) _ _ _
 unfold callAny.viaDunder
 refine wpAny_bind (call.at ?_)
 dsimp only
 rw [tc_bind]
 refine wpAny_bind (wpAny_pure (wpAny_bind (wpAny_pure ?_)))
 refine wpAny_pure (a:=Fin.again (.call (.builtin "type.__call__") ⟨.ref C::rest,kw⟩)) (And.intro rfl ?_)
 refine eV (by decide) (Code.quiet_builtin _ (by decide+kernel)) entry_typeCall (check_slot tc_kind tc_split typ (tc_args _ _ _) ?_)
 unfold Builtin.«type.__call__»
 have hm:Looks (aP prog w) h (mroOf (.ref C)) cd.mro:=((Looks.ld (part:=none) hC).andThen .now).andThen .now
 have e4':¬cd.mro.isEmpty=true:=by rw [e4];exact Bool.false_ne_true
 repeat (first|with_reducible refine aFu e4' ?_|with_reducible refine wpAny_call ?_|lk)
 refine aH0 (new_K Y0 hi0 hne ?_)
 have k:∀b o,h.get? b=some o→((h.push emptyDict).push (instObj C h.objs.size)).get? b=some o:=fun b o e=>Heap.get?_push_of_some _ (Heap.get?_push_of_some _ e)
 have hx:((h.push emptyDict).push (instObj C h.objs.size)).get? (h.objs.size+1)=some (instObj C h.objs.size):=by heap_get
 have t1:Looks (aP prog w) ((h.push emptyDict).push (instObj C h.objs.size)) (typeOf (.ref (h.objs.size+1))) (.ref C):=(Looks.ld hx).andThen .now
 have s1:=self.keeps k
 have i1:=hi.keeps k
 have b1:=(hb (.ref (h.objs.size+1))).keeps k
 unfold isInstance callSpecial? specialOf
 repeat (first|with_reducible refine wpAny_call ?_|lk)
 refine codeAny_mono hq fun r s' z=> ?_
 rcases r with e|(v|_|_|_)<;>first|exact z|exact z.elim|skip
 obtain⟨rfl,z⟩:=z
 exact wpAny_pure (wpAny_pure z)
end
end Mine
end
section
namespace Mine
noncomputable def Cx.under (x:Cx) (c:Code):Cx:={x with A:=x.A.under c}
theorem aHc (args:Args):(Code.builtin "type.__call__" args).weight≤1∧(Code.builtin "type.__call__" args).cUnits≤1∧(Code.builtin "type.__call__" args).envs=[]:=by
 have hF:(Code.builtin "type.__call__" args).isFrame=false:=by rfl
 have hf:(Code.builtin "type.__call__" args).frames=0:=by
  show(if(Code.builtin "type.__call__" args).isFrame then 1 else 0)=0
  rw [hF]
  rfl
 have hg:(Code.builtin "type.__call__" args).isGuard=false:=by
  show guardIds.contains "type.__call__"=false
  decide+kernel
 have hk:(Code.builtin "type.__call__" args).isCaller=false:=by
  unfold Code.isCaller
  split<;>first|rfl|simp_all
 refine⟨?_, ?_, ?_⟩
 ·unfold Code.weight
  rw [hg,hk,hf]
  split<;>simp
 ·show 1+3*(Code.builtin "type.__call__" args).frames≤1
  lia
 ·unfold Code.envs
  rw [hF]
  rfl
section
variable {K:Params→Frag} {n:Nat} {x:Cx}
theorem Cx.Run.under (h:x.Run K (n+1)) (args:Args):(x.under (.builtin "type.__call__" args)).Run K n:=by
 refine rS (aHc args) fun a b c=> ?_
 refine⟨h.glo, ?_,⟨?_, ?_⟩,h.handled⟩
 ·show pushEnvs (Code.builtin "type.__call__" args).envs x.A.frames=some x.fr
  rw [c,h.frames]
  rfl
 ·have:=h.bud.1;show x.A.depth+(Code.builtin "type.__call__" args).weight+2*n+2≤_;lia
 ·have:=h.bud.2;show x.A.units+(Code.builtin "type.__call__" args).cUnits+40*n+40≤_;lia
theorem vK {C fI:Addr} {args:List AV} {kws:List (Str×AV)} {objs objs':List AO} (hm:∀P,makesIn (K P) C=true) (hi:∀P,findIn (K P) (.ref C) "__init__"=some (some (.ref fI))) (hf:∀P,typeIn (K P) (.ref fI)=some (.type "function"))
  (h:DoesCode K n (.ref fI) (.obj objs.length::args) kws (objs++[.inst C []]) .none objs'):DoesCall K (n+1) (.ref C) args kws objs (.obj objs.length) objs':=by
 intro x hx loc ρ vs kvs ha hk s Q E R kk
 have X:=hx.glo.X.keeps R.base
 refine wpAny_call ?_
 obtain⟨hh,g,d,t,os⟩:=s
 refine aEv (makes_of X (hm _)) (makes_of X (hm _)) (looks_findIn X (hi _)) (looks_findIn X (hi _)) (fun self=>bind_fn X self (hf _)) (.inl rfl) ?_
 have k:∀b o,hh.get? b=some o→((hh.push emptyDict).push (instObj C hh.objs.size)).get? b=some o:=fun b o e=>Heap.get?_push_of_some _ (Heap.get?_push_of_some _ e)
 have f1:hh.get? hh.objs.size=none:=Heap.get?_none_of_le (Nat.le_refl _)
 have f2:hh.get? (hh.objs.size+1)=none:=Heap.get?_none_of_le (Nat.le_succ _)
 have g1:((hh.push emptyDict).push (instObj C hh.objs.size)).get? (hh.objs.size+1)=some (instObj C hh.objs.size):=by
  rw [←Heap.size_push hh emptyDict]
  exact Heap.get?_push_size _ rfl
 have g2:((hh.push emptyDict).push (instObj C hh.objs.size)).get? hh.objs.size=some (dictOf [] 0):=Heap.get?_push_of_some _ (Heap.get?_push_size _ rfl)
 have hnew:∀a∈(⟨hh.objs.size+1,some hh.objs.size⟩:OA).a::(⟨hh.objs.size+1,some hh.objs.size⟩:OA).d.toList,hh.get? a=none:=by
  intro a ha
  rcases List.mem_cons.mp ha with rfl|ha
  ·exact f2
  ·have:a=hh.objs.size:=by simpa using ha
   subst this
   exact f1
 have RT:=R.track (x:=⟨hh.objs.size+1,some hh.objs.size⟩) (o:=.inst C []) k hnew (by simp) ⟨hh.objs.size,[],0,rfl,g1,g2,.nil⟩
 have NT:=Next.track (L:=x.L) (ρ:=ρ) (s:=⟨hh,g,d,t,os⟩) (x:=⟨hh.objs.size+1,some hh.objs.size⟩) k hnew
 have dl:=bV R ⟨hh.objs.size+1,some hh.objs.size⟩
 refine codeAny_mono (h (x.under (.builtin "type.__call__" ⟨.ref C::vs,kvs⟩)) (hx.under _) loc (ρ++[⟨hh.objs.size+1,some hh.objs.size⟩]) (.ref (hh.objs.size+1)::vs) kvs (.cons dl (ha.mono fun zz zz q=>cA q)) (hk.mono fun zz zz q=>⟨q.1,cA q.2⟩) _
  (fun v s'=>v= .none∧Q (.ref (hh.objs.size+1)) s') E RT fun a s' ρ' R' N' da=>⟨da,kk _ s' ρ' R' (NT.trans N') (N'.den dl)⟩) fun r s' z=> ?_
 rcases r with e|f
 ·exact z
 ·cases f with
  |ret v=>exact z
  |_=>exact z.elim
end
end Mine
end
section
set_option maxHeartbeats 4000000
namespace Mine
open Builtin Builtin.ObjectAttr Builtin.Getset_descriptor
section
variable {prog:Program} {w:World} {A:Around} {K:Frag} {C:Addr} {R:Result→Shared→Prop} {h:Heap} {g:Array GenState} {d:Drawn} {t:Nat} {os:OsState}
theorem aNj (hC:∃oc od cd sl,h.get? C=some ⟨oc,od,.cls cd,sl⟩∧cd.abstract=false∧cd.hasDel=false∧cd.mro.isEmpty=false) (base:Looks (model prog w) h (Bind.staticBase (.ref C)) (.type "object")) (made:Looks (model prog w) h (Bind.madeBy (.type "object")) (some "object.__new__"))
  (typ:Looks (model prog w) h (isInstance (.ref C) (.type "type")) true) (top:Looks (model prog w) h (isSubtype (.ref C) (.type "object")) true)
  (hq:R (.ok (.ret (.ref (h.objs.size+1)))) ⟨(h.push emptyDict).push (instObj C h.objs.size),g,d,t,os⟩):
  codeAny (model prog w) A (.call (.builtin "object.__new__") ⟨[.ref C],[]⟩) R ⟨h,g,d,t,os⟩:=by
 refine aF fun gq hgq=> ?_
 refine aP3 hC fun oc od cd sl hC e1 e2 e4=> ?_
 subst hgq
 have F:=PySem.F.objNew
 have here:Looks (model prog w) h (Bind.madeHere "object.__new__" (.ref C)) ():=base.andThen (made.andThen (Looks.of_pure (by simp only [Option.map_some,bne_self_eq_false,Bool.false_eq_true,if_false])))
 refine codeAny_call_builtin_code (Code.quiet_builtin _ F.quiet) ?_
 unfold checkBuiltinCall
 rw [F.kind,F.split,F.row]
 dsimp only
 have args:Bind.checkArgs "object.__new__" ⟨.hand,"object.__new__","__new__",.cls,[]⟩ ⟨[.ref C],[]⟩=pure ():=by kernel_rfl
 repeat (first|(with_reducible refine aFu ?_ ?_; · first|(exact Bool.false_ne_true)|(simp;done))|(with_reducible refine aQu ?_ ?_; · simp;done)|with_reducible refine wpAny_bind (wpAny_of_eq args ?_)|lk)
 refine codeAny_builtin F.entry ?_
 unfold Builtin.«object.__new__»
 have fin:∀A',wpAny (model prog w) A' (do
   let d←if typeHasDict (.ref C)then some<$>alloc {cls:=.type "dict",data:=.dict #[]}else pure none
   ret (←newObj (.ref C) .plain d)) (fun fin s'=>match fin with| .done f=>R (.ok f) s'| .again c'=>c'.quiet=true∧codeAny (model prog w) A c' R s') (fun e s'=>R (.error e) s') ⟨h,g,d,t,os⟩:=by
  intro A'
  show wpAny _ _ ((alloc emptyDict>>=fun x=>pure (some x))>>=_) _ _ _
  refine wpAny_bind (wpAny_bind (wpAny_alloc (wpAny_pure (wpAny_bind ?_))))
  show wpAny _ _ (newObjAsIs _ _ _) _ _ _
  unfold newObjAsIs classHasDel
  refine wpAny_bind (wpAny_alloc (wpAny_bind (wpAny_bind (wpAny_load (Heap.get?_push_of_some _ (Heap.get?_push_of_some _ hC)) (wpAny_pure ?_)))))
  rw [e2]
  refine wpAny_pure (wpAny_pure ?_)
  show R _ _
  rw [Heap.size_push]
  exact hq
 have e1':¬cd.abstract=true:=by rw [e1];exact Bool.false_ne_true
 repeat (first|with_reducible refine aFu e1' ?_|exact fin _|lk)
end
end Mine
end
section
namespace Mine
theorem nZ {α:Type} {K:Frag} {M:Model} {A:Around} {E:Value→Shared→Prop} {Q:α→Shared→Prop} {s:Shared} {o:Obj} (X:K.In s.heap):
  ∀(t:Sem α) (g:Addr→Sem α),peekA K ⟨M.prog,M.w.params⟩ t=some (o,g)→wpAny M A (g s.heap.objs.size) Q E {s with heap:=s.heap.push o}→wpAny M A t Q E s:=by
 intro t
 induction t with
 |rule _ k ih=>intro g e q Γ p hΓ;exact ih () g e q Γ p hΓ
 |point _ k ih=>intro g e q Γ p hΓ;exact ih () g e q Γ p hΓ
 |ask k ih=>intro g e q Γ p hΓ;exact ih _ g e q Γ p hΓ
 |load a _ k ih=>
  intro g e q Γ p hΓ
  simp only [peekA]at e
  split at e
  ·rename_i ob ho;exact⟨ob,X _ _ ho,ih ob g e q Γ p hΓ⟩
  ·cases e
 |alloc ob k _=>
  intro g e q
  have e:some (ob,k)=some (o,g):=e
  refine cK (Prod.mk.inj (Option.some.inj e)) fun e1 e2=> ?_
  subst e1
  subst e2
  exact q
 |_=>intro g e;cases e
noncomputable def zN (K:Frag) (S:Setting) (t:Sem (List (Str×Value))) (a b:Addr):Option (Obj×Obj×List (Str×Value)):=match peekA K S t with
 |some (o,g)=>match peekA K S (g a)with
  |some (o2,g2)=>match g2 b with
   | .pure r=>some (o,o2,r)
   |_=>none
  |none=>none
 |none=>none
theorem aP5 {K:Frag} {M:Model} {A:Around} {E:Value→Shared→Prop} {Q:List (Str×Value)→Shared→Prop} {s:Shared} {t:Sem (List (Str×Value))} {o o2:Obj} {r:List (Str×Value)} (X:K.In s.heap)
  (e:zN K ⟨M.prog,M.w.params⟩ t s.heap.objs.size (s.heap.objs.size+1)=some (o,o2,r)) (h:Q r {s with heap:=(s.heap.push o).push o2}):wpAny M A t Q E s:=by
 unfold zN at e
 split at e
 ·rename_i o' g e1
  split at e
  ·rename_i o2' g2 e2
   split at e
   ·rename_i r' e3
    cases e
    refine nZ X t g e1 ?_
    refine nZ (s:={s with heap:=s.heap.push o}) (fun b ob hb=>Heap.get?_push_of_some _ (X b ob hb)) _ g2 e2 ?_
    have:(s.heap.push o).objs.size=s.heap.objs.size+1:=Heap.size_push _ _
    show wpAny M A (g2 (s.heap.push o).objs.size) Q E _
    rw [this,e3]
    exact wpAny_pure h
   ·cases e
  ·cases e
 ·cases e
end Mine
end
section
namespace Mine
noncomputable abbrev aH7 (K:Frag) (C:Addr):Prop:=∃od cd sl,K.lookup C=some ⟨.type "type",od,.cls cd,sl⟩∧cd.abstract=false∧cd.hasDel=false∧cd.mro.isEmpty=false
noncomputable def aEk:Stmt:=aC (aO (aC aR 8)) 1
structure Prog3 (K:Params→Frag):Prop extends Prog2 K where
 m732:∀P,makesIn (K P) 732=true
 i732:∀P,findIn (K P) (.ref 732) "__init__"=some (some (.ref 656))
 t656:∀P,typeIn (K P) (.ref 656)=some (.type "function")
 i597:∀P,findIn (K P) (.ref 597) "__init__"=some (some (.ref 367))
 t367:∀P,typeIn (K P) (.ref 367)=some (.type "function")
 n597:∀P S,peek (K P) S (Bind.madeBy (.ref 597))=some none
 s597:∀P S,peek (K P) S (Bind.staticBase (.ref 597))=some (.type "object")
 mbo:∀P S,peek (K P) S (Bind.madeBy (.type "object"))=some (some "object.__new__")
 r597:∀P,readsIn (K P) 597 (.type "type")=true
 c597:∀P,specialIn (K P) (.ref 597) "__call__"=some (some (.builtin "type.__call__"))
 y597:∀P,instIn (K P) (.ref 597) (.type "type")=some true
 u597:∀P,mroIn (K P) 597 (.ref 597)=some true
 o597:∀P,mroIn (K P) 597 (.type "object")=some true
 k597:∀P,aH7 (K P) 597
 k350:∀P,aH7 (K P) 350
 w597:∀P,∃p rest,findCls (K P) (.ref 597) (.type "type") "__new__"=some (.get (.builtin "staticmethod.__get__") (.ref p) .none (.ref 597))∧recIn (K P) p "staticmethod"=some (.ref 90::rest)
 won:∀P,findCls (K P) (.type "object") (.type "type") "__new__"=some (.val (.builtin "object.__new__"))
 gS:∀P,iO (K P) "StringIO" (.ref 597)
 gB:∀P,iO (K P) "BytesIO" (.ref 350)
 gO:∀P,iO (K P) "object" (.type "object")
 b90:∀P S c v X Y,zN (K P) S (bindArgs (gH (K P) 90) ⟨[c,v],[]⟩) X Y=some (({cls:=.type "tuple",data:=.seq #[v]}:Obj),emptyDict,[(("cls":Str),c),("args",.ref X),("kwargs",.ref Y)])
theorem aLl {hb:Heap} {L:Addr} {fr:List Env} {ρ:List OA} {loc:List (Str×AV)} {objs:List AO} {s:Shared} (C:Addr) (R:Rel hb L fr ρ ⟨loc,objs⟩ s):
  Rel hb L fr (ρ++[⟨s.heap.objs.size+1,some s.heap.objs.size⟩]) ⟨loc,objs++[.inst C []]⟩ {s with heap:=(s.heap.push emptyDict).push (instObj C s.heap.objs.size)}∧
  Next L ρ s (ρ++[⟨s.heap.objs.size+1,some s.heap.objs.size⟩]) {s with heap:=(s.heap.push emptyDict).push (instObj C s.heap.objs.size)}∧
  den (ρ++[⟨s.heap.objs.size+1,some s.heap.objs.size⟩]) (.obj objs.length) (.ref (s.heap.objs.size+1)):=by
 have k:∀b o,s.heap.get? b=some o→((s.heap.push emptyDict).push (instObj C s.heap.objs.size)).get? b=some o:=fun b o e=>Heap.get?_push_of_some _ (Heap.get?_push_of_some _ e)
 have f1:s.heap.get? s.heap.objs.size=none:=Heap.get?_none_of_le (Nat.le_refl _)
 have f2:s.heap.get? (s.heap.objs.size+1)=none:=Heap.get?_none_of_le (Nat.le_succ _)
 have g1:((s.heap.push emptyDict).push (instObj C s.heap.objs.size)).get? (s.heap.objs.size+1)=some (instObj C s.heap.objs.size):=by
  rw [←Heap.size_push s.heap emptyDict]
  exact Heap.get?_push_size _ rfl
 have g2:((s.heap.push emptyDict).push (instObj C s.heap.objs.size)).get? s.heap.objs.size=some (dictOf [] 0):=Heap.get?_push_of_some _ (Heap.get?_push_size _ rfl)
 have hnew:∀a∈(⟨s.heap.objs.size+1,some s.heap.objs.size⟩:OA).a::(⟨s.heap.objs.size+1,some s.heap.objs.size⟩:OA).d.toList,s.heap.get? a=none:=by
  intro a ha
  rcases List.mem_cons.mp ha with rfl|ha
  ·exact f2
  ·have:a=s.heap.objs.size:=by simpa using ha
   subst this
   exact f1
 exact⟨R.track (x:=⟨s.heap.objs.size+1,some s.heap.objs.size⟩) (o:=.inst C []) k hnew (by simp) ⟨s.heap.objs.size,[],0,rfl,g1,g2,.nil⟩,Next.track k hnew,bV R ⟨s.heap.objs.size+1,some s.heap.objs.size⟩⟩
section
variable {K:Params→Frag} {n:Nat} {sc:Scope} {st st₁ st₂:AS} {e1 e2 l r:Expr} {pos:Pos} {b:Bool}
theorem aJg {p:Pos} (h1:cW K n sc e1 st true st₁) (h2:cW K n sc e2 st₁ b st₂):cW K n sc (.BoolOp .And [e1,e2] p) st b st₂:=by
 intro x hx ρ
 rw [arm_isTrue_BoolOp,arm_allTrue_cons]
 refine(h1 x hx ρ).bind fun ρ₁ c ex q=> ?_
 subst q
 show Tri x ρ₁ st₁ (allTrue .And [e2] x.env) _ _
 rw [arm_allTrue_cons]
 refine(h2 x hx ρ₁).bind fun ρ₂ c ex q=> ?_
 subst q
 cases c with
 |true=>exact Tri.pure rfl
 |false=>exact Tri.pure rfl
theorem lC {a c:Addr} (ha:∀P,aH7 (K P) a) (hc:∀P,aH7 (K P) c) (h1:DoesE K n sc l st (.val (.ref a)) st₁) (h2:DoesE K n sc r st₁ (.val (.ref c)) st₂) (hb:b= !(a==c)) (hm:behindInMarks .IsNot r=false):cW K n sc (.Compare l [.IsNot] [r] pos) st b st₂:=by
 intro x hx ρ
 rw [arm_isTrue_Compare]
 refine(h1 x hx ρ).bind fun ρ₁ v ex hv=> ?_
 cases hv
 have em:markedEach [.IsNot] [r] (evalEach [r] x.env)=[eval r x.env]:=by
  show [markedBehindIn .IsNot r (eval r x.env)]=_
  unfold markedBehindIn
  rw [hm]
 rw [em]
 show Tri x ρ₁ st₁ (do let rv←holding [.ref a] (eval r x.env);standAt pos;let c←operate [.ref a,rv] (compareOp .IsNot (.ref a) rv);holding [c] (truthy c)) _ _
 refine Tri.bind (Tri.holding (h2 x hx ρ₁)) fun ρ₂ u ex2 hu=> ?_
 cases hu
 refine Tri.standAt (Tri.bind (st₁:=st₂) (p:=fun zz q=>q= .bool b) (Tri.operate ?_) fun ρ₃ q ex3 hq=>Tri.holding ?_)
 ·intro s Q E R kk
  show wpAny _ _ (isSame (.ref a) (.ref c)>>=fun q=>pure (Value.bool (!q))) _ _ _
  have X:=hx.glo.X.keeps R.base
  by_cases q:a=c
  ·subst q
   show wpAny _ _ ((if(a==a)=true then pure true else _)>>=_) _ _ _
   rw [if_pos (by simp)]
   refine wpAny_bind (wpAny_pure (wpAny_pure (kk _ s ρ₂ R (.refl ..) ?_)))
   rw [hb];simp
  ·refine nX (ha x.w.params) fun od cd sl g1 zz=> ?_
   refine aF fun gq hgq=> ?_
   refine nX (hc x.w.params) fun od' cd' sl' g2 zz=> ?_
   subst hgq
   refine wpAny_bind (SeqAt.wpAny_isSame_ref_other' q (X _ _ g1) (X _ _ g2) (by simp) (wpAny_pure (kk _ s ρ₂ R (.refl ..) ?_)))
   rw [hb]
   have:(a==c)=false:=by simpa using q
   rw [this]
 ·subst hq
  exact bA fun s Q E k=>wpAny_truthy_bool (k _ s.toks rfl)
end
end Mine
end
section
set_option maxHeartbeats 4000000
namespace Mine
open Builtin Builtin.ObjectAttr Builtin.Getset_descriptor
theorem aCm {prog:Program} {w:World} {A:Around} {E:Value→Shared→Prop} {s:Shared} {K:Frag} {pl:Sem Bool} {Q:Value×List Value→Shared→Prop} (X:K.In s.heap)
  (e:findCls K (.type "object") (.type "type") "__new__"=some (.val (.builtin "object.__new__"))) (h:Q (.builtin "object.__new__",[]) {s with toks:=s.toks+1}):wpAny (aP prog w) A (getMethod (.type "object") "__new__" pl) Q E s:=by
 refine to1 ?_
 have hstub:opaqueClassAbove (.type "object")=pure none:=by unfold opaqueClassAbove;dsimp only;rw [show Manifest.isStub "object"=false by decide+kernel];rfl
 have ht:typeOf (.type "object")=pure (.type "type"):=by first|rfl|kernel_rfl
 have L0:Looks (model prog w) s.heap (typeOf (.type "object")) (.type "type"):=Looks.of_pure ht
 have hg:findIn K (.type "type") "__getattribute__"=some (some (.builtin "type.__getattribute__")):=type_tga
 unfold getMethod specialOf
 refine wpAny_bind (wpAny_bind (L0.here ((looks_findIn X hg).here ?_)))
 dsimp only
 rw [if_pos canon_tga]
 refine wpAny_bind (wpAny_mono (Q:=fun v=>Q (v,[])) (E:=E) ?_ (fun zz zz z=>wpAny_pure z) fun zz zz z=>z)
 have LO:Looks (model prog w) s.heap (opaqueClassAbove (.type "object")) none:=Looks.of_pure hstub
 refine cls_open X LO L0 hg (looks_hook X (r:=none) (by rfl)) (by show subIn K _ _=_;rfl) e ?_
 exact wpAny_pure (handed_on rfl h)
noncomputable def xI:Scope:=bC aEk
section
variable {K:Params→Frag} (hP:Prog3 K) {n:Nat} {objs:List AO} {st st₁:AS}
include hP
theorem aA5 {p1 p2 p3 p5:Pos} (hln:Nat.beq p2.endLine p5.line=true):DoesE K n xI (.Call (.Attribute (.Name "object" p1) "__new__" p2) [.Name "cls" p3] [] p5) ⟨[("cls",.val (.ref 597))],objs⟩ (.obj objs.length) ⟨[("cls",.val (.ref 597))],objs++[.inst 597 []]⟩:=by
 intro x hx ρ s Q E R kk
 rw [arm_eval_Call,hK (by rfl)]
 have ho:DoesE K n xI (.Name "object" p1) ⟨[("cls",.val (.ref 597))],objs⟩ (.val (.type "object")) ⟨[("cls",.val (.ref 597))],objs⟩:=eQ (by rw [aN];kernel_rfl) hP.gO (by kernel_rfl)
 refine wpAny_bind (ho x hx ρ s _ _ R fun u s₁ ρ₁ R₁ N₁ d=> ?_)
 cases d
 refine wpAny_bind (wpAny_standAt ?_)
 have hf:methodCallForm 1 (backTo p5 (starEach [Expr.Name "cls" p3] x.env)) (backToKw p5 (keywordEach [] x.env))=true:=rfl
 unfold methodCall
 rw [show([Expr.Name "cls" p3].length+([]:List Keyword).length)=1 from rfl,hf]
 have hpos:methodCallPos true (.Name "object" p1) x.env p2 p5=pure p5:=by
  unfold methodCallPos
  have:(p2.endLine==p5.line)=true:=by simpa using Nat.eq_of_beq_eq_true hln
  rw [this];rfl
 rw [hpos]
 have X:=hx.glo.X.keeps R₁.base
 refine wpAny_bind (wpAny_holding (aCm X (hP.won _) ?_))
 show wpAny _ _ (callWith p5 (.builtin "object.__new__") [] _ _) _ _ _
 refine callWith_of (P:=fun h=>(K x.w.params).In h) rfl (fun h X=>dB (by rfl) X) ?_
 unfold evalArgs
 refine wpAny_bind ?_
 show wpAny _ _ (spliced [(false,eval (.Name "cls" p3) x.env)]) _ _ _
 have hc:DoesE K n xI (.Name "cls" p3) ⟨[("cls",.val (.ref 597))],objs⟩ (.val (.ref 597)) ⟨[("cls",.val (.ref 597))],objs⟩:=aI (m:=3) (td:=[]) (obs:=[]) hP.tab (by kernel_rfl) all_nil
 refine spliced_cons (hc x hx ρ₁ _ _ _ (R₁.toks (Nat.succ_pos _)) fun u s₂ ρ₂ R₂ N₂ d=>wpAny_pure ?_)
 cases d
 refine wpAny_bind (wpAny_pure (wpAny_holding (wpAny_pure ⟨hx.glo.X.keeps R₂.base, ?_⟩)))
 have X2:=hx.glo.X.keeps R₂.base
 refine aF fun gq hgq=> ?_
 refine yT (hP.k597 x.w.params) fun od cd sl g1 g2 g3 g4=> ?_
 refine rS (aLl 597 R₂) fun RT NT dT=> ?_
 subst hgq
 refine wpAny_call (aH0 ?_)
 obtain⟨hh,g,dr,t,os⟩:=s₂
 refine aNj ⟨_,od,cd,sl,X2 _ _ g1,g2,g3,g4⟩ (Looks.of_peek X2 (hP.s597 _ _)) (Looks.of_peek X2 (hP.mbo _ _)) (looks_instIn X2 (hP.y597 _)) (looks_mroIn X2 (hP.o597 _)) ?_
 have N₁':Next x.L ρ s ρ₁ {s₁ with toks:=s₁.toks+1}:=N₁.toks _
 exact kk _ _ _ RT ((N₁'.trans N₂).trans NT) dT
end
end Mine
end
section
set_option maxHeartbeats 4000000
namespace Mine
theorem aS2 {α β γ δ ε ζ η θ ι:Type _} {A:α→β→γ→δ→ε→ζ→η→θ→ι→Prop} {G:Prop} (h:∃a b c d e f g i j,A a b c d e f g i j) (k:∀a b c d e f g i j,A a b c d e f g i j→G):G:=by obtain⟨a,b,c,d,e,f,g,i,j,p0⟩:=h;exact k a b c d e f g i j p0
open Builtin Builtin.ObjectAttr Builtin.Getset_descriptor
section
variable {K:Params→Frag} (hP:Prog3 K) {n:Nat} {objs objs':List AO} {a:AV}
include hP
theorem aFg:DoesCode K (n+1) (.ref 90) [.val (.ref 597),a] [] objs (.obj objs.length) (objs++[.inst 597 []]):=by
 refine aD2 hP.f90.fn (loc:=[("cls",.val (.ref 597))]) (loc':=[("cls",.val (.ref 597))]) (fl:=.ret (.obj objs.length)) (fun w ρ vs kvs s X ha hk=> ?_) ?_ rfl
 ·cases hk
  refine aF fun gq hgq=> ?_
  cases ha with|cons d ha=>cases ha with| @cons _ u _ _ d2 ha=>
  cases ha
  cases d
  subst hgq
  refine⟨[(("cls":Str),.ref 597),("args",.ref s.heap.objs.size),("kwargs",.ref (s.heap.objs.size+1))],(s.heap.push {cls:=.type "tuple",data:=.seq #[u]}).push emptyDict,fun A E Q q=> ?_,fun b o e=>Heap.get?_push_of_some _ (Heap.get?_push_of_some _ e), ?_, ?_⟩
  ·exact aP5 X (hP.b90 _ _ _ _ _ _) q
  ·intro y hy
   rw [aN]
   have hl:([(("cls":Str),(.ref 597:Value)),("args",.ref s.heap.objs.size),("kwargs",.ref (s.heap.objs.size+1))].all fun y=>(aCe (cP y.1 (bC (aC (aO (aC aR 8)) 1)).names)).isSome)=true:=by kernel_rfl
   have:=List.all_eq_true.mp hl y hy
   cases q:aCe (cP y.1 (bC (aC (aO (aC aR 8)) 1)).names)with
   |none=>rw [q]at this;exact mV this
   |some c=>exact uK q
  ·intro y b q
   unfold look at q
   split at q
   ·rename_i z
    rw [sEq_iff]at z
    subst z
    cases q
    exact⟨.ref 597,by kernel_rfl,rfl⟩
   ·cases q
 ·have q:aO (aC (aO (aC aR 8)) 1)=[aC (aO aEk) 0,aC (aO aEk) 1]:=by kernel_rfl
  rw [q]
  have e0:∃p1 p2 p3 p4 p5 p6 p7 p8 b,aC (aO aEk) 0= .If (.BoolOp .And [.Compare (.Name "cls" p1) [.IsNot] [.Name "BytesIO" p2] p3,.Compare (.Name "cls" p4) [.IsNot] [.Name "StringIO" p5] p6] p7) b [] p8:=⟨_,_,_,_,_,_,_,_,_,rfl⟩
  refine aS2 e0 fun p1 p2 p3 p4 p5 p6 p7 p8 b e0=> ?_
  have e1:∃p1 p2 p3 p5 p6,aC (aO aEk) 1= .Return (some (.Call (.Attribute (.Name "object" p1) "__new__" p2) [.Name "cls" p3] [] p5)) p6∧Nat.beq p2.endLine p5.line=true:=⟨_,_,_,_,_,rfl,by kernel_rfl⟩
  refine aJu e1 fun r1 r2 r3 r5 r6 e1 hln=> ?_
  have hc:∀p,DoesE K n xI (.Name "cls" p) ⟨[("cls",.val (.ref 597))],objs⟩ (.val (.ref 597)) ⟨[("cls",.val (.ref 597))],objs⟩:=fun p=>aI (m:=3) (td:=[]) (obs:=[]) hP.tab (by kernel_rfl) all_nil
  have h0:DoesS K n xI (aC (aO aEk) 0) ⟨[("cls",.val (.ref 597))],objs⟩ .next ⟨[("cls",.val (.ref 597))],objs⟩:=by
   rw [e0]
   refine eP (aJg (st₁:=⟨[("cls",.val (.ref 597))],objs⟩) (lC hP.k597 hP.k350 (hc _) (eQ (by rw [aN];kernel_rfl) hP.gB (by kernel_rfl)) (by decide) (by rfl)) (lC hP.k597 hP.k597 (hc _) (eQ (by rw [aN];kernel_rfl) hP.gS (by kernel_rfl)) (by decide) (by rfl))) cM
  have h1:DoesS K n xI (aC (aO aEk) 1) ⟨[("cls",.val (.ref 597))],objs⟩ (.ret (.obj objs.length)) ⟨[("cls",.val (.ref 597))],objs++[.inst 597 []]⟩:=by
   rw [e1]
   exact gI (aA5 hP hln)
  exact bD h0 (jR h1 (by intro h;cases h))
theorem aFn (h:DoesCode K n (.ref 367) [.obj objs.length,a] [] (objs++[.inst 597 []]) .none objs') (hn:1≤n):DoesCall K (n+1) (.ref 597) [a] [] objs (.obj objs.length) objs':=by
 intro x hx loc ρ vs kvs ha hk s Q E R kk
 refine aF fun gq hgq=> ?_
 cases hk
 cases ha with| @cons _ u _ _ du ha=>
 cases ha
 obtain⟨m,rfl⟩:∃m,n=m+1:=⟨n - 1,by omega⟩
 subst hgq
 have X:=hx.glo.X.keeps R.base
 refine yT (hP.k597 x.w.params) fun od cd sl g1 g2 g3 g4=> ?_
 have hC:=X _ _ g1
 obtain⟨hh,g,d,t,os⟩:=s
 have call:=looks_specialIn (M:=mx x) X (hP.c597 _)
 have typ:=looks_instIn (M:=mx x) X (hP.y597 _)
 have madeN:Looks (mx x) hh (Bind.madeBy (.ref 597)) none:=Looks.of_peek X (hP.n597 _ _)
 have self:=looks_mroIn (M:=mx x) X (hP.u597 _)
 have hm:Looks (mx x) hh (mroOf (.ref 597)) cd.mro:=((Looks.ld (part:=none) hC).andThen .now).andThen .now
 refine fL (hP.w597 x.w.params) fun pp rest n1 n2=> ?_
 have hget:∀{A:Around} {Q:Value→Shared→Prop} {E:Value→Shared→Prop},Q (.ref 90) ⟨hh,g,d,t+1,os⟩→wpAny (mx x) A (getAttr (.ref 597) "__new__") Q E ⟨hh,g,d,t,os⟩:=fun q=>
  to1 (cls_bind X (hP.r597 _) n1 (wpAny_call (sm_get (s:=⟨hh,g,d,t+1,os⟩) X n2 (handed_on rfl q))))
 have g4':¬cd.mro.isEmpty=true:=by rw [g4];exact Bool.false_ne_true
 refine wpAny_call (codeAny_of_tree ?_)
 show wpAny _ x.A.in1 (callAny (.ref 597) _) _ _ _
 refine nd_load hC ?_
 show wpAny _ _ (callAny.viaDunder (.ref 597) _) _ _ _
 unfold callAny.viaDunder
 refine wpAny_bind (call.at ?_)
 dsimp only
 rw [tc_bind]
 refine wpAny_bind (wpAny_pure (wpAny_bind (wpAny_pure ?_)))
 refine wpAny_pure (a:=Fin.again (.call (.builtin "type.__call__") ⟨[.ref 597,u],[]⟩)) (And.intro rfl ?_)
 refine eV (by decide) (Code.quiet_builtin _ (by decide+kernel)) entry_typeCall (check_slot tc_kind tc_split typ (tc_args _ _ _) ?_)
 unfold Builtin.«type.__call__»
 repeat (first|with_reducible refine hget ?_|with_reducible refine wpAny_call ?_|with_reducible refine aFu g4' ?_|lk)
 have hu:=hx.under ⟨[.ref 597,u],[]⟩
 have hu:(x.under (.builtin "type.__call__" ⟨[.ref 597,u],[]⟩)).Run K (m+1):=hu
 refine codeAny_mono (aFg hP (x.under (.builtin "type.__call__" ⟨[.ref 597,u],[]⟩)) hu loc ρ [.ref 597,u] [] (.cons rfl (.cons du .nil)) .nil ⟨hh,g,d,t+1,os⟩
  (fun v s'=>wpAny (mx x) (x.A.under (.builtin "type.__call__" ⟨[.ref 597,u],[]⟩)) (do
   if !(←isInstance v (.ref 597))then rule "type.call.new-gave-other-type";return←ret v
   match←holding [v] (callSpecial? v "__init__" [u] [])with
   |none=>ret v
   |some r=>
    if r != .none then
     rule "type.call.init-returned-value"
     raiseError "TypeError" s!"__init__() should return None, not '{← typeNameOf r}'"
    ret v) (fun fin s'=>match fin with| .done f=>(match(Except.ok f:Result)with| .ok (.ret v)=>Q v s'| .ok _=>False| .error e=>E e s')| .again c'=>c'.quiet=true∧codeAny (mx x) x.A c' (fun r s'=>match r with| .ok (.ret v)=>Q v s'| .ok _=>False| .error e=>E e s') s') (fun e s'=>E e s') s') (fun e s'=>E e s') (R.toks (Nat.succ_pos _)) fun v s' ρ' R' N' dv=> ?_) fun r s' z=> ?_
 ·refine nW (R'.inst (k:=objs.length) (C:=597) (fs:=[]) (by simp) dv) fun y dx es mm hy q5_ hd h1 h2 hf=> ?_;subst q5_
  have X':=hx.glo.X.keeps R'.base
  obtain⟨hh',g',d',t',os'⟩:=s'
  have t1:Looks (mx x) hh' (typeOf (.ref y.a)) (.ref 597):=(Looks.ld h1).andThen .now
  have s1:=looks_mroIn (M:=mx x) X' (hP.u597 _)
  have i1:=looks_findIn (M:=mx x) X' (hP.i597 _)
  have b1:=bind_fn (M:=mx x) X' (.ref y.a) (hP.t367 _)
  unfold isInstance callSpecial? specialOf
  repeat (first|with_reducible refine wpAny_call ?_|lk)
  refine codeAny_mono (h (x.under (.builtin "type.__call__" ⟨[.ref 597,u],[]⟩)) hu loc ρ' [.ref y.a,u] [] (.cons dv (.cons (N'.den du) .nil)) .nil _
   (fun v s'=>v= .none∧Q (.ref y.a) s') E R' fun r s'' ρ'' R'' N'' dr=>⟨dr,kk _ s'' ρ'' R'' (((Next.refl x.L ρ ⟨hh,g,d,t,os⟩).toks (t+1)).trans (N'.trans N'')) (N''.den dv)⟩) fun r s'' z=> ?_
  rcases r with e|f
  ·exact z
  ·cases f with
   |ret v=>
    obtain⟨rfl,z⟩:=z
    exact wpAny_pure (wpAny_pure z)
   |_=>exact z.elim
 ·rcases r with e|f
  ·exact z
  ·cases f with
   |ret v=>exact z
   |_=>exact z.elim
end
end Mine
end
section
namespace Mine
section
variable {K:Params→Frag} (hP:Prog3 K) {n:Nat} {lx:AO} {l:List Nat} {objs:List AO}
include hP
noncomputable def io0:AO:=.inst 597 [("_StringIO__newline",.str "\n"),("_StringIO__buf",.str ""),("_StringIO__pos",.int 0)]
theorem aFl:DoesCall K (n+1) (.ref 374) [.obj 1,S l] [] [lx,io0] (S l) [lx,io0]:=
 bZ hP.f374.fn (hb2 hP.b374) (by kernel_rfl) (bI (by kernel_rfl)) (fl:=.ret (S l)) (loc':=[("self",.obj 1),("s",S l),("newline",.str "\n")])
  (aB (m:=20) (k:=20) (td:=[]) (obs:=[]) hP.tab (by kernel_rfl) all_nil) rfl
theorem aD0:DoesCode K (n+3) (.ref 367) [.obj 1,S l] [] [lx,.inst 597 []] .none [lx,ioO (mkS l) 0]:=by
 refine cB (hP.b367) fun t hb=> ?_
 refine lZ hP.f367.fn (loc:=[("self",.obj 1),("initial_value",S l),("newline",.str "\n")]) (fun P ρ vs kvs ha hk=> ?_) (by kernel_rfl) (bI (by kernel_rfl)) (fl:=.next) (loc':=[("self",.obj 1),("initial_value",S l),("newline",.str "\n")]) ?_ rfl
 ·cases hk
  refine aF fun gq hgq=> ?_
  cases ha with|cons d ha=>cases ha with|cons d2 ha=>
  cases ha
  subst hgq
  exact⟨_,fun s X=>(hb _ _).to P s X,.cons ⟨rfl,d⟩ (.cons ⟨rfl,d2⟩ (.cons ⟨rfl,⟨⟨t,rfl⟩,by rw [sizeLine_eq];decide⟩⟩ .nil))⟩
 ·refine DoesB.post (st₁:=⟨[("self",.obj 1),("initial_value",S l),("newline",.str "\n")],[lx,.inst 597 [("_StringIO__newline",.str "\n"),("_StringIO__buf",S l),("_StringIO__pos",.int 0)]]⟩)
   (aB (m:=20) (k:=20) (td:=[.c (.val (.type "str")) [lx,.inst 597 []],.c (.val (.type "str")) [lx,.inst 597 []],.c (S l) [lx,io0]])
    (obs:=[DoesCall K (n+2) (.type "type") [.str "\n"] [] [lx,.inst 597 []] (.val (.type "str")) [lx,.inst 597 []],
     DoesCall K (n+2) (.type "type") [S l] [] [lx,.inst 597 []] (.val (.type "str")) [lx,.inst 597 []],
     DoesCall K (n+2) (.ref 374) [.obj 1,S l] [] [lx,io0] (S l) [lx,io0]]) hP.tab (by kernel_rfl) (aA ?_ (aA ?_ (aA (aFl hP) all_nil)))) ?_
  ·exact mU rfl
  ·exact mU rfl
  ·exact⟨FLe.refl _,.cons (AOle.refl _) (.cons (qH (.cons ⟨rfl,AVle.refl _⟩ (.cons ⟨rfl,AVle.refl _⟩ (.cons ⟨rfl,vN⟩ .nil)))) .nil)⟩
noncomputable def kI (com words punct:Str) (more:List (Str×AV)) (split:Bool):AO:=.inst 732 (([("instream",.obj 1),("infile",.none),("posix",.bool true),("eof",.none),("commenters",.str com),("wordchars",.str words),("whitespace",.str " \t\r\n"),("whitespace_split",.bool split),
 ("quotes",.str "'\""),("escape",.str "\\"),("escapedquotes",.str "\""),("state",.str " "),("pushback",.obj 2),("lineno",.int 1),("debug",.int 0),("token",.str ""),("filestack",.obj 3),("source",.none),("_punctuation_chars",.str punct)]:List (Str×AV))++more)
noncomputable def scI:Scope:=bC (aC shB 0)
noncomputable def aOz:List Stmt:=aO (aC shB 0)
theorem aH1:DoesCall K (n+4) (.ref 597) [S l] [] [lx] (.obj 1) [lx,ioO (mkS l) 0]:=aFn hP (objs:=[lx]) (aD0 hP) (by lia)
noncomputable def qU:AO:=.inst 732 [("instream",.obj 1),("infile",.none),("posix",.bool true),("eof",.none),("commenters",.str "#"),("wordchars",.str (wordsA++gQ)),("whitespace",.str " \t\r\n"),("whitespace_split",.bool false),
 ("quotes",.str "'\""),("escape",.str "\\"),("escapedquotes",.str "\""),("state",.str " ")]
noncomputable def qT:AO:=.inst 732 [("instream",.obj 1),("infile",.none),("posix",.bool true),("eof",.none),("commenters",.str "#"),("wordchars",.str (wordsA++gQ)),("whitespace",.str " \t\r\n"),("whitespace_split",.bool false),
 ("quotes",.str "'\""),("escape",.str "\\"),("escapedquotes",.str "\""),("state",.str " "),("pushback",.obj 2),("lineno",.int 1),("debug",.int 0),("token",.str "")]
theorem aFi:DoesCode K (n+5) (.ref 656) [.obj 0,S l] [("posix",.bool true)] [.inst 732 []] .none [kI "#" (wordsA++gQ) "" [] false,ioO (mkS l) 0,.deq [],.deq []]:=by
 refine lZ hP.f656.fn (loc:=[("self",.obj 0),("instream",S l),("infile",.none),("posix",.bool true),("punctuation_chars",.bool false)]) (fun P ρ vs kvs ha hk=> ?_) (by kernel_rfl) (bI (by kernel_rfl)) (fl:=.next) (loc':=[("self",.obj 0),("instream",.obj 1),("infile",.none),("posix",.bool true),("punctuation_chars",.str "")]) ?_ rfl
 ·cases ha with|cons d ha=>cases ha with|cons d2 ha=>
  refine aF fun gq hgq=> ?_
  cases ha
  cases hk with| @cons _ kv _ _ d3 hk=>
  cases hk
  obtain⟨kn,kv⟩:=kv
  refine cK d3 fun q0_ d3=> ?_;subst q0_
  subst hgq
  exact⟨_,fun s X=>(hP.b656 _ _ _).to P s X,.cons ⟨rfl,d⟩ (.cons ⟨rfl,d2⟩ (.cons ⟨rfl,rfl⟩ (.cons ⟨rfl,d3⟩ (.cons ⟨rfl,rfl⟩ .nil))))⟩
 ·exact aB (m:=20) (k:=20) (td:=[.c (.bool true) [.inst 732 []],.c (.obj 1) [.inst 732 [],ioO (mkS l) 0],.c (.obj 2) [qU,ioO (mkS l) 0,.deq []],.c (.obj 3) [qT,ioO (mkS l) 0,.deq [],.deq []]])
   (obs:=[DoesCall K (n+4) (.builtin "isinstance") [S l,.val (.type "str")] [] [.inst 732 []] (.bool true) [.inst 732 []],
    DoesCall K (n+4) (.ref 597) [S l] [] [.inst 732 []] (.obj 1) [.inst 732 [],ioO (mkS l) 0],
    DoesCall K (n+4) (.type "collections.deque") [] [] [qU,ioO (mkS l) 0] (.obj 2) [qU,ioO (mkS l) 0,.deq []],
    DoesCall K (n+4) (.type "collections.deque") [] [] [qT,ioO (mkS l) 0,.deq []] (.obj 3) [qT,ioO (mkS l) 0,.deq [],.deq []]]) hP.tab (by kernel_rfl)
   (aA (gD rfl) (aA (aH1 hP) (aA (hI (objs:=[qU,ioO (mkS l) 0])) (aA (hI (objs:=[qT,ioO (mkS l) 0,.deq []])) all_nil))))
theorem aJo:DoesCall K (n+6) (.ref 732) [S l] [("posix",.bool true)] [] (.obj 0) [kI "#" (wordsA++gQ) "" [] false,ioO (mkS l) 0,.deq [],.deq []]:=
 vK hP.m732 hP.i732 hP.t656 (objs:=[]) (aFi hP)
end
end Mine
end
section
namespace Mine
theorem nY (l:List Nat) (hl:l.length<1000000):∀(f p:Nat),p≤l.length→(bB l f p).length≤10*(l.length - p)
 |0,p,_=>by simp [bB]
 |f+1,p,hp=>by
  show(match cJ (l.drop p) p with|some (k,b,e)=>eB k (cL l b e)++bB l f e|none=>[]).length≤_
  cases h:cJ (l.drop p) p with
  |none=>simp
  |some x=>
   refine aF fun gq hgq=> ?_
   obtain⟨k,b,e⟩:=x
   refine aJx (pB rfl h) fun g1 g2 g3 zz zz=> ?_
   subst hgq
   have hseg:(cL l b e).length=e - b:=by unfold cL;rw [List.length_take,List.length_drop];omega
   have h1:=tL k (cL l b e)
   have h2:=nY l hl f e g3
   simp only [List.length_append]
   omega
theorem aFs {l:List Nat} (hl:l.length<1000000):(wrt l).length≤10*l.length:=by
 have:=nY l hl (l.length+1) 0 (Nat.zero_le _)
 unfold wrt
 omega
noncomputable def onS (f:List Nat→List AV) (a:AV):List AV:=match cS a with
 |some x=>f x.cps.toList
 |none=>[]
theorem aBt (f:List Nat→List AV) (l:List Nat):onS f (S l)=f l:=by
 show f (mkS l).cps.toList=f l
 simp [mkS]
theorem eN (f:List Nat→List AV):∀ps:List (List Nat),(ps.map S).flatMap (onS f)=ps.flatMap f
 |[]=>rfl
 |p::ps=>by
  rw [List.map_cons,List.flatMap_cons,List.flatMap_cons,aBt,eN f ps]
theorem sC {ps:List (List Nat)} {pre suf:List AV} {a:AV} (h:ps.map S=pre++a::suf):∃p1 p p2,ps=p1++p::p2∧pre=p1.map S∧a=S p∧suf=p2.map S:=by
 refine aF fun gq hgq=> ?_
 refine kK (List.map_eq_append_iff.mp h) fun p1 r e1 e2 e3=> ?_
 refine kK (List.map_eq_cons_iff.mp e3) fun p p2 e4 e5 e6=> ?_
 subst hgq
 exact⟨p1,p,p2,by rw [e1,e4],e2.symm,e5.symm,e6.symm⟩
theorem iZ {α β:Type} (g:α→β):∀l:List α,(l.flatMap fun p=>[g p])=l.map g
 |[]=>rfl
 |a::l=>by rw [List.flatMap_cons,List.map_cons,iZ g l];rfl
theorem aAd (k:Nat) (g:List Nat→List Nat) (ps:List (List Nat)):(ps.flatMap fun p=>[S (g p)]).all (AV.below k)=true:=by
 rw [iZ,List.all_map]
 exact List.all_eq_true.mpr fun zz zz=>rfl
theorem aH4 (k:Nat) (ps:List (List Nat)):(ps.map S).all (AV.below k)=true:=by
 rw [List.all_map]
 exact List.all_eq_true.mpr fun zz zz=>rfl
section
variable {K:Params→Frag} (hP:Prog3 K) {n:Nat} {base:List AO} {ps:List (List Nat)} {kp:Nat} {loc:List (Str×AV)}
include hP
theorem aQ0 (hz:∀p∈ps,p.length<5000) (hn:ps.length≤1000) (hb:base.all (AO.below (base.length+1))=true) (ho:base[kp]?=some (.list (ps.map S)))
  (hE:DoesE K (n+2) scL (kE 1 jB) ⟨loc,base⟩ (.obj kp) ⟨loc,base⟩):
  jX K (n+2) scL jB ⟨loc,base⟩ (.obj base.length) ⟨loc,base++[.list (ps.map fun p=>S (wrt p))]⟩:=by
 have q:∃i q1 p1,jB= .ListComp (nI jB) [⟨.Name "pattern" q1,i,[],0⟩] (csE jB) p1∧i=(kE 1 jB)∧(∀env x,foldedSetIterable i env x=pure x):=⟨_,_,_,rfl,rfl,fun zz zz=>rfl⟩
 refine aF fun gq hgq=> ?_
 refine aJw q fun i q1 p1 q ei hs=> ?_
 rw [←ei]at hE
 subst hgq
 have fl:(ps.map S).flatMap (onS fun p=>[S (wrt p)])=ps.map fun p=>S (wrt p):=by
  rw [eN,iZ]
 have T:=rJ (K:=K) (n:=n+2) (sc:=csE jB) (y:="pattern") (rest:=oP (nI jB)) (base:=base) (good:=fun st=>st.objs[kp]?=some (.list (ps.map S))) (onS fun p=>[S (wrt p)])
  (fun acc=>by
   have hlt:=(List.getElem?_eq_some_iff.mp ho).1
   show(base++[.list acc])[kp]?=_
   rw [List.getElem?_append_left hlt]
   exact ho) (ps.map S) [] (fun pre a suf e=>by
   refine aF fun gq hgq=> ?_
   refine yT (sC e) fun p1 p p2 e1 q4_ q5_ q6_=> ?_;subst q4_;subst q5_;subst q6_
   subst hgq
   rw [aBt,eN]
   have hp1:p1.length≤ps.length:=by rw [e1];simp
   have hp:p.length<5000:=hz p (by rw [e1];simp)
   refine DoesRP.forget (locm:=[("pattern",S p)]) (more:=[]) ?_ (by simp) rfl ?_
   ·have hbel:(base++[AO.list ([]++p1.flatMap fun p=>[S (wrt p)])]).all (AO.below (base++[AO.list ([]++p1.flatMap fun p=>[S (wrt p)])]).length)=true:=by
     rw [List.length_append,List.all_append]
     show(base.all (AO.below (base.length+1))&&([AO.list ([]++p1.flatMap fun p=>[S (wrt p)])].all (AO.below (base.length+1))))=true
     rw [hb,Bool.true_and]
     simp only [List.all_cons,List.all_nil,Bool.and_true,List.nil_append]
     exact aAd _ _ _
    have hx:=aRt hP.toProg2 (n:=n) (l:=p) (more:=base++[.list ([]++p1.flatMap fun p=>[S (wrt p)])]) (by omega) hbel
    have:=aLt (ka:=base.length) (xs:=[]++p1.flatMap fun p=>[S (wrt p)]) hx (by simp) (by rw [List.nil_append,iZ,List.length_map,sizeLine_eq];omega)
    simpa using this
   ·rw [List.all_append]
    have hl:(base++[AO.list ([]++(p1.flatMap fun p=>[S (wrt p)])++[S (wrt p)])]).length=base.length+1:=by simp
    rw [hl,hb,Bool.true_and]
    simp only [List.all_cons,List.all_nil,Bool.and_true,List.nil_append]
    show((p1.flatMap fun p=>[S (wrt p)])++[S (wrt p)]).all (AV.below (base.length+1))=true
    rw [List.all_append,aAd]
    rfl)
 rw [fl]at T
 rw [q]
 exact aCr (by kernel_rfl) (by rw [aN];kernel_rfl) hs (aOa _ _ _ _ _ _) hE (eH ho) (by
  have hlt:=(List.getElem?_eq_some_iff.mp ho).1
  show(base++[.list []])[kp]?=_
  rw [List.getElem?_append_left hlt]
  exact ho) T
end
end Mine
end
section
namespace Mine
noncomputable def dD (ps:List (List Nat)):List Nat:=cT [32] (ps.map wrt)
section
variable {K:Params→Frag} (hP:Prog3 K) {n:Nat} {base:List AO} {ps:List (List Nat)} {kp:Nat} {loc:List (Str×AV)}
include hP
theorem aQ1 (hz:∀p∈ps,p.length<1000) (hn:ps.length≤50) (hb:base.all (AO.below (base.length+1))=true) (ho:base[kp]?=some (.list (ps.map S)))
  (hE:DoesE K (n+2) scL (kE 1 jB) ⟨loc,base⟩ (.obj kp) ⟨loc,base⟩):
  aAg K (n+2) scL (aC eJ 1) ⟨loc,base⟩ .next ⟨put "line" (S (dD ps)) loc,base++[.list ((ps.map wrt).map S)]⟩:=by
 have q:∃p1 p2 k p3 p4 p5,aC eJ 1= .Assign [.Name "line" p1] (.Call (.Attribute (.Constant (.str (mkS [32])) k p2) "join" p3) [jB] [] p4) p5∧Nat.beq p3.endLine p4.line=true:=⟨_,_,_,_,_,_,rfl,by kernel_rfl⟩
 refine aF fun gq hgq=> ?_
 refine aS4 q fun p1 p2 k p3 p4 p5 q hln=> ?_
 subst hgq
 rw [q]
 have hL:=aQ0 hP (n:=n) (fun p hp=>by have:=hz p hp;omega) (by omega) hb ho hE
 have em:(ps.map fun p=>S (wrt p))=(ps.map wrt).map S:=by rw [List.map_map];rfl
 rw [em]at hL
 have hsum:((ps.map wrt).map fun p=>p.length+(mkS [32]).length).sum<1000000:=by
  have key:∀qs:List (List Nat),(∀p∈qs,p.length<1000)→((qs.map wrt).map fun p=>p.length+(mkS [32]).length).sum≤qs.length*10001:=by
   intro qs
   induction qs with
   |nil=>intro _;simp
   |cons a r ih=>
    intro h
    have h1:=ih fun p hp=>h p (.tail _ hp)
    have h2:=aFs (l:=a) (by have:=h a (.head _);omega)
    have h3:=h a (.head _)
    simp only [List.map_cons,List.sum_cons,List.length_cons,aK,List.length_nil]at h1⊢
    omega
  have:=key ps hz
  omega
 have hJ:=wN (K:=K) (n:=n+2) (sep:=mkS [32]) (k:=base.length) (ps:=ps.map wrt) (objs:=base++[.list ((ps.map wrt).map S)]) (by simp) hsum
 have hm:hM "str" "join" "str.join":=hP.tab.str _ _ (by kernel_rfl)
 exact wH (by rfl) (by rw [aN];kernel_rfl) (wK (st₂:=⟨loc,base++[.list ((ps.map wrt).map S)]⟩) (by rfl) hln (by rfl) hm (aI (m:=3) (td:=[]) (obs:=[]) hP.tab (by kernel_rfl) all_nil) hL hJ)
end
end Mine
end
section
namespace Mine
noncomputable def rK:Expr:=wX (aC eJ 2)
section
variable {K:Params→Frag} (hP:Prog3 K) {n:Nat} {base:List AO} {ps:List (List Nat)} {kp:Nat} {loc:List (Str×AV)}
include hP
theorem aNl (hz:∀p∈ps,p.length<1000) (hn:ps.length≤50) (hb:base.all (AO.below (base.length+1))=true) (hst:base.all AO.still=true) (ho:base[kp]?=some (.list (ps.map S)))
  (hE:DoesE K (n+2) scL (kE 1 rK) ⟨loc,base⟩ (.obj kp) ⟨loc,base⟩):
  DoesS K (n+2) scL (aC eJ 2) ⟨loc,base⟩ .next ⟨put "meant" (.obj base.length) loc,base++[.list ((ps.map aX).map S)]⟩:=by
 have q:∃z1 s1 i q1 p1,aC eJ 2= .Assign [.Name "meant" z1] (.ListComp (nI rK) [⟨.Name "pattern" q1,i,[],0⟩] (csE rK) p1) s1∧i=(kE 1 rK)∧(∀env x,foldedSetIterable i env x=pure x)∧z1.line=p1.line:=⟨_,_,_,_,_,rfl,rfl,fun zz zz=>rfl,by rfl⟩
 refine aF fun gq hgq=> ?_
 obtain⟨z1,s1,i,q1,p1,q,ei,hs,hln⟩:=q
 rw [←ei]at hE
 subst hgq
 have fl:(ps.map S).flatMap (onS fun p=>[S (aX p)])=(ps.map aX).map S:=by
  rw [eN,iZ,List.map_map]
  rfl
 have T:=jS (K:=K) (n:=n+2) (sc:=csE rK) (y:="pattern") (rest:=oP (nI rK)) (base:=base) (good:=fun st=>st.objs[kp]?=some (.list (ps.map S))) (onS fun p=>[S (aX p)])
  (fun acc=>by
   have hlt:=(List.getElem?_eq_some_iff.mp ho).1
   show(base++[.list acc])[kp]?=_
   rw [List.getElem?_append_left hlt]
   exact ho) (ps.map S) [] (fun pre a suf e=>by
   refine aF fun gq hgq=> ?_
   obtain⟨p1,p,p2,e1,rfl,rfl,rfl⟩:=sC e
   subst hgq
   rw [aBt,eN]
   have hp1:p1.length≤ps.length:=by rw [e1];simp
   have hp:p.length<1000:=hz p (by rw [e1];simp)
   refine DoesR.forget (locm:=[("pattern",S p)]) (more:=[]) ?_ (by simp) rfl ?_
   ·obtain⟨o',hc⟩:=aFo hP.toProg2 (n:=n) (l:=p) (by omega)
    have hst2:(base++[AO.list ([]++p1.flatMap fun p=>[S (aX p)])]).all AO.still=true:=by
     rw [List.all_append,hst,Bool.true_and]
     rfl
    have hc2:=hc.frame (objs:=base++[.list ([]++p1.flatMap fun p=>[S (aX p)])]) (by rfl) (by rfl) hst2
    have hx:DoesE K (n+2) (csE rK) (nI rK) ⟨[("pattern",S p)],base++[.list ([]++p1.flatMap fun p=>[S (aX p)])]⟩ (S (aX p)) ⟨[("pattern",S p)],base++[.list ([]++p1.flatMap fun p=>[S (aX p)])]⟩:=
     aI (m:=20) (td:=[.c (S (aX p)) (base++[.list ([]++p1.flatMap fun p=>[S (aX p)])])]) (obs:=[DoesCall K (n+2) (.ref 792) [S p] [] (base++[.list ([]++p1.flatMap fun p=>[S (aX p)])]) (S (aX p)) (base++[.list ([]++p1.flatMap fun p=>[S (aX p)])])]) hP.tab (by kernel_rfl) (aA hc2 all_nil)
    have:=aGv (ka:=base.length) (xs:=[]++p1.flatMap fun p=>[S (aX p)]) hx (by simp) (by rw [List.nil_append,iZ,List.length_map,sizeLine_eq];omega)
    simpa using this
   ·rw [List.all_append]
    have hl:(base++[AO.list ([]++(p1.flatMap fun p=>[S (aX p)])++[S (aX p)])]).length=base.length+1:=by simp
    rw [hl,hb,Bool.true_and]
    simp only [List.all_cons,List.all_nil,Bool.and_true,List.nil_append]
    show((p1.flatMap fun p=>[S (aX p)])++[S (aX p)]).all (AV.below (base.length+1))=true
    rw [List.all_append,aAd]
    rfl)
 rw [fl]at T
 rw [q]
 exact aFc (by kernel_rfl) (by rw [aN];kernel_rfl) hs (by rw [aN];kernel_rfl) hln (by kernel_rfl) (aOa _ _ _ _ _ _) hE (eH ho) (by
  have hlt:=(List.getElem?_eq_some_iff.mp ho).1
  show(base++[.list []])[kp]?=_
  rw [List.getElem?_append_left hlt]
  exact ho) T
end
end Mine
end
section
namespace Mine
noncomputable def ifL:Stmt:=aC eJ 3
noncomputable abbrev aRv:Expr→Expr:=kE 1
noncomputable abbrev aQz:Stmt→Expr:=stE
noncomputable def fR:Expr:=aRv (aQz ifL)
noncomputable def nE (t:List Nat):List Nat:=aQ 57345 [93] (aQ 57344 [91] t)
noncomputable def cH (t:List Nat):List AV:=if nz t then [S (nE t)]else []
section
variable {K:Params→Frag} (hP:Prog3 K) {n:Nat} {base:List AO} {ms:List (List Nat)} {km:Nat} {loc:List (Str×AV)} {t:List Nat}
include hP
theorem aSv {objs:List AO} (hz:t.length<100000):DoesE K (n+2) (csE fR) (nI fR) ⟨[("told",S t)],objs⟩ (S (nE t)) ⟨[("told",S t)],objs⟩:=by
 have q:∃p1 p2 p3 p4 p5 k1 k2 r2 r3 r4 r5 k3 k4,nI fR= .Call (.Attribute (.Call (.Attribute (.Name "told" p1) "replace" p2) [.Constant (.str (mkS [57344])) k1 p3,.Constant (.str (mkS [91])) k2 p4] [] p5) "replace" r2) [.Constant (.str (mkS [57345])) k3 r3,.Constant (.str (mkS [93])) k4 r4] [] r5∧Nat.beq p2.endLine p5.line=true∧Nat.beq r2.endLine r5.line=true:=
  ⟨_,_,_,_,_,_,_,_,_,_,_,_,_,rfl,by kernel_rfl,by kernel_rfl⟩
 refine aF fun gq hgq=> ?_
 obtain⟨p1,p2,p3,p4,p5,k1,k2,r2,r3,r4,r5,k3,k4,q,h1,h2⟩:=q
 subst hgq
 rw [q]
 have hl:=cF 57344 [91] t
 have hin:=eA (K:=K) (n:=n+2) (sc:=csE fR) (k1:=k1) (k2:=k2) (p1:=p3) (p2:=p4) (c:=57344) (z:=[91]) (l:=t) (a:=S t) (st:=⟨[("told",S t)],objs⟩) (st₁:=⟨[("told",S t)],objs⟩) (o:=.Name "told" p1) hP.tab rfl rfl (by rfl) h1 (aI (m:=3) (td:=[]) (obs:=[]) hP.tab (by kernel_rfl) all_nil) rfl (by decide) (by simp;omega)
 exact eA (c:=57345) (z:=[93]) (l:=aQ 57344 [91] t) (a:=S (aQ 57344 [91] t)) hP.tab rfl rfl (by rfl) h2 hin rfl (by decide) (by simp at hl⊢;omega)
theorem aMi (hz:∀t∈ms,t.length<100000) (hn:ms.length≤50) (hb:base.all (AO.below (base.length+1))=true) (ho:base[km]?=some (.list (ms.map S)))
  (hE:DoesE K (n+2) scL (kE 1 fR) ⟨loc,base⟩ (.obj km) ⟨loc,base⟩):
  DoesE K (n+2) scL fR ⟨loc,base⟩ (.obj base.length) ⟨loc,base++[.list (ms.flatMap cH)]⟩:=by
 have q:∃i q1 p1 c,fR= .ListComp (nI fR) [⟨.Name "told" q1,i,[c],0⟩] (csE fR) p1∧i=(kE 1 fR)∧(∀env x,foldedSetIterable i env x=pure x)∧c=(kE 2 fR):=⟨_,_,_,_,rfl,rfl,fun zz zz=>rfl,rfl⟩
 refine aF fun gq hgq=> ?_
 refine aP3 q fun i q1 p1 c q ei hs ec=> ?_
 rw [←ei]at hE
 subst hgq
 have len1:∀ps:List (List Nat),(ps.flatMap cH).length≤ps.length:=by
  intro ps
  induction ps with
  |nil=>simp
  |cons a r ih=>
   have:(cH a).length≤1:=by unfold cH;split<;>simp
   simp only [List.flatMap_cons,List.length_append,List.length_cons]
   omega
 have bel1:∀k (ps:List (List Nat)),(ps.flatMap cH).all (AV.below k)=true:=by
  intro k ps
  induction ps with
  |nil=>rfl
  |cons a r ih=>
   rw [List.flatMap_cons,List.all_append,ih,Bool.and_true]
   unfold cH
   split<;>rfl
 have T:=jS (K:=K) (n:=n+2) (sc:=csE fR) (y:="told") (rest:=qP (nI fR) [c]) (base:=base) (good:=fun st=>st.objs[km]?=some (.list (ms.map S))) (onS cH)
  (fun acc=>by
   have hlt:=(List.getElem?_eq_some_iff.mp ho).1
   show(base++[.list acc])[km]?=_
   rw [List.getElem?_append_left hlt]
   exact ho) (ms.map S) [] (fun pre a suf e=>by
   refine aF fun gq hgq=> ?_
   refine yT (sC e) fun p1 p p2 e1 q4_ q5_ q6_=> ?_;subst q4_;subst q5_;subst q6_
   subst hgq
   rw [aBt,eN]
   have hp1:p1.length≤ms.length:=by rw [e1];simp
   have hp:p.length<100000:=hz p (by rw [e1];simp)
   have hl1:=len1 p1
   refine DoesR.forget (locm:=[("told",S p)]) (more:=[]) ?_ (by simp) rfl ?_
   ·have hb:=aGk p
    cases hnz:nz p with
    |true=>
     rw [hnz]at hb
     have hT:cW K (n+2) (csE fR) c ⟨[("told",S p)],base++[.list ([]++p1.flatMap cH)]⟩ true ⟨[("told",S p)],base++[.list ([]++p1.flatMap cH)]⟩:=by
      rw [ec]
      exact eO (m:=5) (td:=[.b true]) (obs:=[(match(mkS p).cps.toList with|[]=>false|_=>true)=true]) hP.tab (by kernel_rfl) (aA hb all_nil)
     have:=aA3 (ka:=base.length) (xs:=[]++p1.flatMap cH) hT (aSv hP hp) (by simp) (by rw [List.nil_append,sizeLine_eq];omega)
     have ew:cH p=[S (nE p)]:=by unfold cH;rw [hnz];rfl
     rw [ew]
     simpa using this
    |false=>
     rw [hnz]at hb
     have hT:cW K (n+2) (csE fR) c ⟨[("told",S p)],base++[.list ([]++p1.flatMap cH)]⟩ false ⟨[("told",S p)],base++[.list ([]++p1.flatMap cH)]⟩:=by
      rw [ec]
      exact eO (m:=5) (td:=[.b false]) (obs:=[(match(mkS p).cps.toList with|[]=>false|_=>true)=false]) hP.tab (by kernel_rfl) (aA hb all_nil)
     have:=wI (elt:=nI fR) (ka:=base.length) hT
     have ew:cH p=[]:=by unfold cH;rw [hnz];rfl
     rw [ew]
     simpa using this
   ·rw [List.all_append]
    have hl:(base++[AO.list ([]++(p1.flatMap cH)++cH p)]).length=base.length+1:=by simp
    rw [hl,hb,Bool.true_and]
    simp only [List.all_cons,List.all_nil,Bool.and_true,List.nil_append]
    show((p1.flatMap cH)++cH p).all (AV.below (base.length+1))=true
    rw [List.all_append,bel1]
    unfold cH
    split<;>rfl)
 rw [eN]at T
 rw [q]
 exact wJ (by kernel_rfl) (by rw [aN];kernel_rfl) hs (aP8 _ _ _ _ _ _ _) hE (eH ho) (by
  have hlt:=(List.getElem?_eq_some_iff.mp ho).1
  show(base++[.list []])[km]?=_
  rw [List.getElem?_append_left hlt]
  exact ho) T
end
end Mine
end
section
namespace Mine
noncomputable abbrev aSn:Stmt→Expr:=stE
noncomputable def aOi:Expr:=aSn (aC eJ 4)
noncomputable def iI:Expr:=aRv aOi
noncomputable def aOq:Expr:=kE 1 iI
noncomputable def aRj:Expr:=kE 2 iI
theorem aF7 (ps:List (List Nat)):(AO.list (ps.map S)).flat=true:=by
 show(ps.map S).all AV.flat=true
 rw [List.all_map]
 exact List.all_eq_true.mpr fun zz zz=>rfl
theorem aGq {base:List AO} {x y:AO}:(base++[x]++[y])[base.length+1]?=some y:=by
 rw [List.append_assoc,List.getElem?_append_right (by lia)]
 simp
theorem qA (f:List Nat→List (List Nat)):∀ms:List (List Nat),(ms.flatMap fun p=>(f p).map S)=(ms.flatMap f).map S
 |[]=>rfl
 |a::r=>by rw [List.flatMap_cons,List.flatMap_cons,List.map_append,qA f r]
section
variable {K:Params→Frag} (hP:Prog3 K) {n:Nat} {base:List AO} {ms:List (List Nat)} {km:Nat} {loc:List (Str×AV)} {p:List Nat}
include hP
theorem aGp {good:AS→Prop} {pre:List AO} {o:AO} (hb:pre.all (AO.below (pre.length+2))=true) (hb2:o.below (pre.length+2)=true) (hg:∀acc:List (List Nat),good ⟨[("told",S p)],pre++[.list (acc.map S),o]⟩):
  ∀(ts done:List (List Nat)),done.length+ts.length≤100000→
   CTurns K (n+2) (csE iI) "token" (oP (nI iI)) pre.length good (ts.map S) ⟨[("told",S p)],pre++[.list (done.map S),o]⟩ ⟨[("told",S p)],pre++[.list ((done++ts).map S),o]⟩
 |[],done,_=>by rw [List.append_nil];exact .nil
 |t::ts,done,hl=>by
  have h1:=aGp hb hb2 hg ts (done++[t]) (by simp at hl⊢;lia)
  rw [List.append_assoc]at h1
  have hx:DoesE K (n+2) (csE iI) (nI iI) ⟨[("told",S p),("token",S t)],pre++[.list (done.map S),o]⟩ (S t) ⟨[("told",S p),("token",S t)],pre++[.list (done.map S),o]⟩:=
   aI (m:=3) (td:=[]) (obs:=[]) hP.tab (by kernel_rfl) all_nil
  have hr:=aGv (ka:=pre.length) (xs:=done.map S) hx (by simp) (by rw [List.length_map,sizeLine_eq];simp at hl;lia)
  refine .cons (st₁:=⟨[("told",S p)],pre++[.list ((done++[t]).map S),o]⟩) (DoesR.forget (locm:=[("token",S t)]) (more:=[]) ?_ (by simp) rfl ?_) (hg _) h1
  ·have ep:put "token" (S t) [("told",S p)]=([("told",S p),("token",S t)]:List (Str×AV)):=by first|rfl|kernel_rfl
   show DoesR _ _ _ _ _ ⟨put "token" (S t) [("told",S p)],_⟩ _
   rw [ep]
   simpa using hr
  ·rw [List.all_append]
   have hl2:(pre++[AO.list ((done++[t]).map S),o]).length=pre.length+2:=by simp
   rw [hl2,hb,Bool.true_and]
   simp only [List.all_cons,List.all_nil,Bool.and_true,hb2]
   exact aH4 _ _
theorem aKa (hz:∀t∈ms,t.length<20000) (hn:(ms.flatMap aV).length≤100000) (hb:base.all (AO.below (base.length+1))=true) (hb2:base.all (AO.below (base.length+2))=true) (hst:base.all AO.still=true) (ho:base[km]?=some (.list (ms.map S)))
  (hE:DoesE K (n+2) scL aOq ⟨loc,base⟩ (.obj km) ⟨loc,base⟩):
  DoesE K (n+2) scL iI ⟨loc,base⟩ (.obj base.length) ⟨loc,base++[.list ((ms.flatMap aV).map S)]⟩:=by
 have q:∃i q1 q2 p1 i2,iI= .ListComp (nI iI) [⟨.Name "told" q1,i,[],0⟩,⟨.Name "token" q2,i2,[],0⟩] (csE iI) p1∧i=aOq∧i2=aRj∧(∀env x,foldedSetIterable i env x=pure x)∧(∀env x,foldedSetIterable i2 env x=pure x):=⟨_,_,_,_,_,rfl,rfl,rfl,fun zz zz=>rfl,fun zz zz=>rfl⟩
 refine aF fun gq hgq=> ?_
 refine aS6 q fun i q1 q2 p1 i2 q ei ei2 hs hs2=> ?_
 rw [←ei]at hE
 subst hgq
 have fl:(ms.map S).flatMap (onS fun p=>(aV p).map S)=(ms.flatMap aV).map S:=by
  rw [eN,qA]
 have T:=jS (K:=K) (n:=n+2) (sc:=csE iI) (y:="told") (rest:=aGb iI i2) (base:=base) (good:=fun st=>st.objs[km]?=some (.list (ms.map S))) (onS fun p=>(aV p).map S)
  (fun acc=>by
   have hlt:=(List.getElem?_eq_some_iff.mp ho).1
   show(base++[.list acc])[km]?=_
   rw [List.getElem?_append_left hlt]
   exact ho) (ms.map S) [] (fun pre a suf e=>by
   refine aF fun gq hgq=> ?_
   refine yT (sC e) fun p1 p p2 e1 q4_ q5_ q6_=> ?_;subst q4_;subst q5_;subst q6_
   subst hgq
   rw [aBt,eN,qA,List.nil_append]
   have hp:p.length<20000:=hz p (by rw [e1];simp)
   have hl:(p1.flatMap aV).length+(aV p).length≤100000:=by
    rw [e1]at hn
    simp only [List.flatMap_append,List.flatMap_cons,List.length_append]at hn
    lia
   have hst2:(base++[AO.list ((p1.flatMap aV).map S)]).all AO.still=true:=by
    rw [List.all_append,hst,Bool.true_and]
    rfl
   have hc:=(aD4 hP.toProg2 (n:=n) (l:=p) hp).frame1 (objs:=base++[AO.list ((p1.flatMap aV).map S)]) (by rfl) (by rfl) (aF7 _) hst2
   have hx:DoesE K (n+2) (csE iI) i2 ⟨[("told",S p)],base++[AO.list ((p1.flatMap aV).map S)]⟩ (.obj (base++[AO.list ((p1.flatMap aV).map S)]).length) ⟨[("told",S p)],base++[AO.list ((p1.flatMap aV).map S)]++[.list ((aV p).map S)]⟩:=by
    rw [ei2]
    exact aI (m:=20) (td:=[.c (.obj (base++[AO.list ((p1.flatMap aV).map S)]).length) (base++[AO.list ((p1.flatMap aV).map S)]++[.list ((aV p).map S)])]) (obs:=[DoesCall K (n+2) (.ref 799) [S p] [] (base++[AO.list ((p1.flatMap aV).map S)]) (.obj (base++[AO.list ((p1.flatMap aV).map S)]).length) (base++[AO.list ((p1.flatMap aV).map S)]++[.list ((aV p).map S)])]) hP.tab (by kernel_rfl) (aA hc all_nil)
   have hT:=aGp hP (n:=n) (p:=p) (pre:=base) (o:=.list ((aV p).map S)) (good:=fun st=>st.objs[base.length+1]?=some (.list ((aV p).map S))) hb2 (aH4 _ _) (fun acc=>by
    show(base++[AO.list (acc.map S),.list ((aV p).map S)])[base.length+1]?=_
    rw [List.getElem?_append_right (by lia)]
    simp) (aV p) (p1.flatMap aV) (by lia)
   have hln:(base++[AO.list ((p1.flatMap aV).map S)]).length=base.length+1:=by simp
   rw [hln]at hx
   refine DoesR.forget (locm:=[("told",S p)]) (more:=[.list ((aV p).map S)]) (st:=⟨[("told",S p)],base++[AO.list ((p1.flatMap aV).map S)]⟩) ?_ (by simp) rfl ?_
   ·rw [q]
    refine aNy hs2 (by rw [aN];kernel_rfl) (aQx _ _ _ _ _ _ _ _ _) rfl hx (eH aGq) aGq ?_
    simp only [List.append_assoc,List.cons_append,List.nil_append,List.map_append]at hT⊢
    exact hT
   ·rw [List.all_append]
    have hl2:(base++[AO.list ((p1.flatMap aV).map S++(aV p).map S)]).length=base.length+1:=by simp
    rw [hl2,hb,Bool.true_and]
    simp only [List.all_cons,List.all_nil,Bool.and_true]
    rw [←List.map_append]
    exact aH4 _ _)
 rw [fl]at T
 rw [q]at T⊢
 exact aFe (by kernel_rfl) (by rw [aN];kernel_rfl) hs (aQy _ _ _ _ _ _ _ _ _) hE (eH ho) (by
  have hlt:=(List.getElem?_eq_some_iff.mp ho).1
  show(base++[.list []])[km]?=_
  rw [List.getElem?_append_left hlt]
  exact ho) T
end
end Mine
end
section
namespace Mine
section
variable {prog:Program} {w:World} {A:Around} {E:Value→Shared→Prop} {s:Shared}
theorem aJp {T newId initId:String} {Bi:Builtin} {args:List Value} {Q Q₁:Value→Shared→Prop} (ft:TypeCalled T newId initId) (hne:(initId=="gc.ask")=false)
  (hct:checkTypeCall T ⟨args,[]⟩=pure ()) (entryI:entryFor table initId=some Bi)
  (hnew:codeAny (aP prog w) A.in1 (.call (.builtin newId) ⟨.type T::args,[]⟩) (wants Q₁ E) s)
  (hnext:∀obj s₁,Q₁ obj s₁→s₁.TypeIs obj T∧argsOk initId ⟨obj::args,[]⟩∧
   wpAny (aP prog w) A.in1.in1 (Bi ⟨obj::args,[]⟩)
    (fun fin s'=>match fin with| .done f=>wants (fun r s₂=>r= .none∧Q obj s₂) E (.ok f) s'| .again c'=>c'.quiet=true∧codeAny (aP prog w) A.in1 c' (wants (fun r s₂=>r= .none∧Q obj s₂) E) s')
    (fun e s'=>wants (fun r s₂=>r= .none∧Q obj s₂) E (.error e) s') s₁):
  wpAny (aP prog w) A (call (.type T) args) Q E s:=by
 refine iK (ft.mro) fun c tl hmro=> ?_
 have hmade:=ft.made
 have hsub:=ft.sub
 refine wpAny_call (codeAny_of_tree ?_)
 show wpAny _ _ (callAny (.type T) _) _ _ _
 refine wpAny_pure ⟨Code.quiet_builtin _ (by decide+kernel),cD (by decide) F.entry_type_call ?_⟩
 rw [Around.under_plain (weight_type_call_type T args []) rfl]
 have h1:=ft.notType
 have h2:=ft.canCreate
 repeat (any_goals (first|assumption|wp_step))
 refine codeAny_mono hnew fun r s₁ hr=> ?_
 cases r with
 |error e=>exact hr
 |ok fl=>
  cases fl with
  |ret obj=>
   refine rS (hnext _ _ hr) fun hT hok hsi=> ?_
   have hli:=ft.init.lookup
   have hbi:=ft.init.bind obj
   repeat (any_goals (first|assumption|wp_step))
   refine codeAny_mono (eC hne ft.init.plain entryI (ft.init.check _ _ _ _ _ _ _ _ hT hok hsi)) fun r₂ s₂ hr₂=> ?_
   cases r₂ with
   |error e=>exact hr₂
   |ok fl₂=>
    cases fl₂ with
    |ret r=>
     refine cK hr₂ fun q0_ hq=> ?_;subst q0_
     repeat (any_goals (first|assumption|wp_step))
    |_=>exact hr₂.elim
  |_=>exact hr.elim
end
end Mine
end
section
namespace Mine
noncomputable def aSx (ρ:List OA):Option AV→Option Value→Prop
 |none,none=>True
 |some a,some v=>den ρ a v
 |_,_=>False
noncomputable def aAf (K:Params→Frag) (n k:Nat) (objs:List AO) (r:Option AV) (objs':List AO):Prop:=∀x:Cx,x.Run K n→∀loc ρ u (s:Shared) (Q:Option Value→Shared→Prop) (E:Value→Shared→Prop),den ρ (.obj k) u→Rel x.hb x.L x.fr ρ ⟨loc,objs⟩ s→
 (∀v s' ρ',Rel x.hb x.L x.fr ρ' ⟨loc,objs'⟩ s'→Next x.L ρ s ρ' s'→aSx ρ' r v→Q v s')→wpAny (mx x) x.A (pyNext u) Q E s
inductive Pulls (K:Params→Frag) (n k kl:Nat):List AO→List AO→Prop
 |done {objs objs'}:aAf K n k objs none objs'→Pulls K n k kl objs objs'
 |one {objs objs₁ objs' a xs}:aAf K n k objs (some a) objs₁→objs₁[kl]?=some (.list xs)→xs.length≤sizeLine→Pulls K n k kl (objs₁.set kl (.list (xs++[a]))) objs'→Pulls K n k kl objs objs'
section
variable {K:Params→Frag} {n k kl:Nat} {objs objs':List AO}
theorem aD3 (h:Pulls K n k kl objs objs') {x:Cx} (hx:x.Run K (n+1)) {loc:List (Str×AV)} {u l res:Value} {R:Result→Shared→Prop}:∀{ρ:List OA} {s:Shared},den ρ (.obj k) u→den ρ (.obj kl) l→Rel x.hb x.L x.fr ρ ⟨loc,objs⟩ s→
  (∀s' ρ',Rel x.hb x.L x.fr ρ' ⟨loc,objs'⟩ s'→Next x.L ρ s ρ' s'→R (.ok (.ret res)) s')→codeAny (mx x) x.A (.builtin "list.extend.loop" ⟨[l,u,res],[]⟩) R s:=by
 induction h with
 |done h=>
  intro ρ s du dl RR kk
  refine cD (by decide) F.entry_extend_loop ?_
  rw [Around.under_plainId F.plain_extend_loop _]
  show wpAny _ _ (pyNext u>>=_) _ _ s
  refine wpAny_bind (h x.in1 hx.in1 loc ρ u s _ _ du RR fun v s' ρ' R' N' c=> ?_)
  cases v with
  |some v=>exact c.elim
  |none=>exact wpAny_pure (kk s' ρ' R' N')
 |one h ho hz _ ih=>
  intro ρ s du dl RR kk
  refine cD (by decide) F.entry_extend_loop ?_
  rw [Around.under_plainId F.plain_extend_loop _]
  show wpAny _ _ (pyNext u>>=_) _ _ s
  refine wpAny_bind (h x.in1 hx.in1 loc ρ u s _ _ du RR fun v s' ρ' R' N' c=> ?_)
  cases v with
  |none=>exact c.elim
  |some v=>
   refine aF fun gq hgq=> ?_
   refine gP (R'.lst ho (N'.den dl)) fun y us m hy q4_ hd h1 h2=> ?_;subst q4_
   subst hgq
   show wpAny _ _ (updateSeq y.a (·.push v)>>=_) _ _ _
   refine wpAny_bind (wpAny_updateSeq h1 rfl ?_ (by rw [List.size_toArray,←h2.length];exact hz) (by show(us.toArray.push v).size≤sizeLine+1;rw [Array.size_push,List.size_toArray,←h2.length];lia))
   have R3:=R'.turn hy (.head _) (f:=Obj.mapSeq (·.push v)) (o:=.list (_++[_])) ⟨us++[v],(if(us.toArray.push v).size==us.toArray.size then m else m+1),hd,by
    have:=IsL.update (show IsL s'.heap y.a us.toArray m from h1) (fun z=>z.push v)
    rw [this]
    simp,h2.append (.cons c .nil)⟩
   have N3:=Next.turn (L:=x.in1.L) (s:=s') hy (.head _) (f:=Obj.mapSeq (·.push v))
   refine wpAny_pure ⟨plainId_quiet F.plain_extend_loop _, ?_⟩
   exact ih (N3.den (N'.den du)) (N3.den (N'.den dl)) R3 fun s'' ρ'' R4 N4=>kk s'' ρ'' R4 ((N'.trans N3).trans N4)
end
end Mine
end
section
namespace Mine
section
variable {M:Model} {A:Around} {E:Value→Shared→Prop} {s:Shared} {K:Frag} {x C f:Addr} {ox:Obj} {od:Option Obj}
theorem aL9 {Q:Value→Shared→Prop} (X:K.In s.heap) (I:InstAt s.heap x ox C od) (hs:findIn K (.ref C) "__iter__"=some (some (.ref f))) (hf:isFn K (.ref f)=true)
  (h:wpAny M A (call (.ref f) [.ref x]) (OwitIt M A Q E) E s):wpAny M A (pyIter (.ref x)) Q E s:=by
 have fin:wpAny M A (call (.ref f) [.ref x]>>=fun v=>pure (some v)) (fun r s'=>∃v,r=some v∧OwitIt M A Q E v s') E s:=
  wpAny_bind (wpAny_mono h (fun v s' h'=>wpAny_pure ⟨v,rfl,h'⟩) fun zz zz z=>z)
 have one:∀refuse:Sem Value,wpAny M A (callSpecialIfBoundUnlessNone? (.ref x) "__iter__" refuse) (fun r s'=>∃v,r=some v∧OwitIt M A Q E v s') E s:=by
  intro refuse
  simp only [callSpecialIfBoundUnlessNone?,bindSpecialIfBound?]
  refine wpAny_holding (wpAny_bind (wpAny_bind (wpAny_bind (I.type.here ((looks_findIn X hs).here ?_)))))
  refine wpAny_bind (wpAny_askSetting (wpAny_ite ?_))
  have fin2:wpAny M A (if(Value.ref f==Value.none)=true then(refuse>>=fun v=>pure (some v))else(call (.ref f) [.ref x]>>=fun v=>pure (some v))) (fun r s'=>∃v,r=some v∧OwitIt M A Q E v s') E s:=by
   rw [if_neg (show¬((Value.ref f==Value.none)=true)from Bool.false_ne_true)]
   exact fin
  split
  ·exact wpAny_bind ((bind_fn X _ (beq_iff_eq.mp hf)).here (wpAny_pure (by exact fin2)))
  ·exact wpAny_tryCatch (wpAny_bind ((bind_fn X _ (beq_iff_eq.mp hf)).here (wpAny_pure (by exact fin2))))
 unfold pyIter
 refine wpAny_bind (wpAny_bind (I.type.here ((looks_findIn X hs).here ?_)))
 show wpAny M A (callSpecialIfBoundUnlessNone? (.ref x) "__iter__" _>>=_) Q E s
 refine wpAny_bind (wpAny_mono (one _) (fun r s' hr=> ?_) fun zz zz z=>z)
 refine aH hr fun v q1_ hv=> ?_;subst q1_
 refine wpAny_bind (wpAny_mono hv (fun r s₂ hr=> ?_) fun zz zz z=>z)
 cases r with
 |none=>exact hr.elim
 |some g=>exact wpAny_pure hr
theorem aBs {Q:Option Value→Shared→Prop} (X:K.In s.heap) (I:InstAt s.heap x ox C od) (hs:findIn K (.ref C) "__next__"=some (some (.ref f))) (hf:isFn K (.ref f)=true)
  (h:wpAny M A (call (.ref f) [.ref x]) (fun v s'=>Q (some v) s') (OwitStop M A Q E) s):wpAny M A (pyNext (.ref x)) Q E s:=by
 unfold pyNext
 refine wpAny_bind (wpAny_attempt (special_fn (name:="__next__") (args:=[]) X I hs (beq_iff_eq.mp hf) (wpAny_mono h (fun v s' hq=> ?_) (fun e s' he=> ?_))))
 ·exact wpAny_pure hq
 ·refine wpAny_bind (wpAny_mono he (fun b s₂ hb=> ?_) fun zz zz z=>z)
  cases b with
  |true=>exact wpAny_pure hb
  |false=>exact wpAny_throw hb
end
structure Iterates (K:Params→Frag) (C fi fn:Addr):Prop where
 iter:∀P,findIn (K P) (.ref C) "__iter__"=some (some (.ref fi))
 next:∀P,findIn (K P) (.ref C) "__next__"=some (some (.ref fn))
 len:∀P,findIn (K P) (.ref C) "__len__"=some none
 hint:∀P,findIn (K P) (.ref C) "__length_hint__"=some none
 isI:∀P,isFn (K P) (.ref fi)=true
 isN:∀P,isFn (K P) (.ref fn)=true
section
variable {K:Params→Frag} {n k:Nat} {objs objs':List AO} {C fi fn:Addr} {fs:List (Str×AV)} {a:AV}
theorem qW (I:Iterates K C fi fn) (ho:objs[k]?=some (.inst C fs)) (h:DoesCall K n (.ref fn) [.obj k] [] objs a objs'):aAf K n k objs (some a) objs':=by
 intro x hx loc ρ u s Q E d R kk
 refine aF fun gq hgq=> ?_
 refine nW (R.inst ho d) fun y dx es m hy q5_ hd h1 h2 hf=> ?_;subst q5_
 subst hgq
 exact aBs (hx.glo.X.keeps R.base) (jN h1 h2) (I.next _) (I.isN _) (h x hx loc ρ [.ref y.a] [] (.cons d .nil) .nil s _ _ R fun v s' ρ' R' N' da=>kk _ s' ρ' R' N' da)
theorem aJ2 (I:Iterates K C fi fn) (ho:objs[k]?=some (.inst C fs)) (h:DoesCall K n (.ref fi) [.obj k] [] objs (.obj k) objs) {x:Cx} (hx:x.Run K n) {loc:List (Str×AV)} {ρ:List OA} {u:Value} {s:Shared} {Q:Value→Shared→Prop} {E:Value→Shared→Prop}
  (d:den ρ (.obj k) u) (R:Rel x.hb x.L x.fr ρ ⟨loc,objs⟩ s) (kk:∀s' ρ',Rel x.hb x.L x.fr ρ' ⟨loc,objs⟩ s'→Next x.L ρ s ρ' s'→Q u s'):wpAny (mx x) x.A (pyIter u) Q E s:=by
 refine aF fun gq hgq=> ?_
 refine nW (R.inst ho d) fun y dx es m hy q5_ hd h1 h2 hf=> ?_;subst q5_
 subst hgq
 refine aL9 (hx.glo.X.keeps R.base) (jN h1 h2) (I.iter _) (I.isI _) (h x hx loc ρ [.ref y.a] [] (.cons d .nil) .nil s _ _ R fun v s' ρ' R' N' da=> ?_)
 refine aF fun gq hgq=> ?_
 refine nW (R'.inst ho (N'.den d)) fun y' dx' es' m' hy' ev hd' h1' h2' hf'=> ?_
 refine aH da fun z hz q2_=> ?_;subst q2_
 rw [hy']at hz
 obtain rfl:=Option.some.inj hz
 subst hgq
 have ea:y.a=y'.a:=by injection ev
 unfold OwitIt
 exact wpAny_bind ((jN h1' h2').type.here ((looks_findIn (hx.glo.X.keeps R'.base) (I.next _)).here (by rw [←ea];exact kk s' ρ' R' N')))
theorem aLg (I:Iterates K C fi fn) (ho:objs[k]?=some (.inst C fs)) {x:Cx} (hx:x.Run K n) {loc:List (Str×AV)} {ρ:List OA} {u:Value} {s:Shared} {Q:Bool→Shared→Prop} {E:Value→Shared→Prop}
  (d:den ρ (.obj k) u) (R:Rel x.hb x.L x.fr ρ ⟨loc,objs⟩ s) (h:Q true s):wpAny (mx x) x.A (Builtin.List.listLengthHint u) Q E s:=by
 refine aF fun gq hgq=> ?_
 refine nW (R.inst ho d) fun y dx es m hy q5_ hd h1 h2 hf=> ?_;subst q5_
 subst hgq
 have T:=(jN h1 h2).type (M:=mx x)
 have X:=hx.glo.X.keeps R.base
 unfold Builtin.List.listLengthHint
 refine wpAny_bind (wpAny_bind (T.here ((looks_findIn X (I.len _)).here ?_)))
 show wpAny _ _ (specialOf (Value.ref y.a) (Str.ofString "__length_hint__")>>=_) _ _ _
 refine wpAny_bind (wpAny_bind (T.here ((looks_findIn X (I.hint _)).here ?_)))
 exact wpAny_pure h
end
end Mine
end
section
namespace Mine
section
variable {K:Params→Frag} {n k:Nat} {objs objs':List AO} {C fi fn:Addr} {fs:List (Str×AV)} {a:AV}
theorem sY {x:Cx} {kl:Nat} {loc:List (Str×AV)} {ρ:List OA} {S:Addr} {s:Shared} {xs ys:List AV} {g:Array Value→Array Value} {Q:Unit→Shared→Prop} {E:Value→Shared→Prop} (R:Rel x.hb x.L x.fr ρ ⟨loc,objs⟩ s) (d:den ρ (.obj kl) (.ref S)) (ho:objs[kl]?=some (.list xs))
  (hx:xs.length≤sizeLine) (hg:∀us:List Value,us.length=xs.length→All2 (den ρ) xs us→∃vs:List Value,g us.toArray=vs.toArray∧All2 (den ρ) ys vs) (hl:ys.length≤sizeLine)
  (kk:∀s',Rel x.hb x.L x.fr ρ ⟨loc,objs.set kl (.list ys)⟩ s'→Next x.L ρ s ρ s'→Q () s'):wpAny (mx x) x.A (updateSeq S g) Q E s:=by
 refine aF fun gq hgq=> ?_
 refine gP (R.lst ho d) fun y us m hy ev hd h1 h2=> ?_
 obtain rfl:S=y.a:=by injection ev
 refine aH (hg us h2.length.symm h2) fun vs e hv=> ?_
 subst hgq
 refine wpAny_updateSeq h1 rfl ?_ (by rw [List.size_toArray,←h2.length];exact hx) (by rw [e,List.size_toArray,←hv.length];lia)
 refine kk _ (R.turn hy (.head _) (f:=Obj.mapSeq g) (o:=.list ys) ⟨vs,(if(g us.toArray).size==us.toArray.size then m else m+1),hd, ?_,hv⟩) (Next.turn hy (.head _))
 have:=IsL.update (show IsL s.heap y.a us.toArray m from h1) g
 rw [this,e]
theorem aF9 (I:Iterates K C fi fn) (ho:objs[k]?=some (.inst C fs)) (hi:DoesCall K (n+1) (.ref fi) [.obj k] [] objs (.obj k) objs) {kl:Nat} (hol:objs[kl]?=some (.list [])) (P:Pulls K n k kl objs objs') {x:Cx} (hx:x.Run K (n+2)) {loc:List (Str×AV)} {ρ:List OA} {u:Value} {S:Addr} {s:Shared}
  {R:Result→Shared→Prop} (d:den ρ (.obj k) u) (dl:den ρ (.obj kl) (.ref S)) (hne:u≠ .ref S) (RR:Rel x.hb x.L x.fr ρ ⟨loc,objs⟩ s) (kk:∀s' ρ',Rel x.hb x.L x.fr ρ' ⟨loc,objs'⟩ s'→Next x.L ρ s ρ' s'→R (.ok (.ret .none)) s'):
  wpAny (mx x) x.A.in1 (Builtin.List.listExtendWith (.ref S) u .none) (fun fin s'=>match fin with| .done f=>R (.ok f) s'| .again c'=>c'.quiet=true∧codeAny (mx x) x.A c' R s') (fun e s'=>R (.error e) s') s:=by
 refine aF fun gq hgq=> ?_
 refine nW (RR.inst ho d) fun y dx es m hy q5_ hd h1 h2 hf=> ?_;subst q5_
 subst hgq
 have T:=(jN h1 h2).type (M:=mx x)
 unfold Builtin.List.listExtendWith
 have c1:Builtin.List.listSameRef (.ref S) (.ref y.a)=false:=by simp [Builtin.List.listSameRef];exact fun e=>hne (by rw [e])
 have c2:(Value.ref C==Value.type "list")=false:=rfl
 have c3:(Value.ref C==Value.type "tuple")=false:=rfl
 refine wpAny_bind (T.here ?_)
 simp only [c1,c2,c3,Bool.or_false,Bool.false_eq_true,if_false]
 refine wpAny_bind (aJ2 (x:=x.in1) I ho hi hx.in1 d RR fun s₁ ρ₁ R₁ N₁=> ?_)
 refine wpAny_bind (wpAny_holding (aLg (x:=x.in1) I ho hx.in1 (N₁.den d) R₁ ?_))
 show wpAny _ _ (rule "list.extend.makes-room">>=fun zz=>Builtin.List.listTouch (.ref S)>>=fun zz=>again (.builtin "list.extend.loop" ⟨[.ref S,.ref y.a,.none],[]⟩)) _ _ _
 refine wpAny_bind (wpAny_rule ?_)
 refine wpAny_bind ?_
 show wpAny _ _ (updateSeq S (·.push .none)>>=fun zz=>updateSeq S (·.pop)) _ _ _
 have hlt:=(List.getElem?_eq_some_iff.mp hol).1
 refine wpAny_bind (sY (x:=x.in1) (ys:=[.none]) R₁ (N₁.den dl) hol (by simp) (fun us hu zz=> ?_) (by rw [sizeLine_eq];decide) fun s₂ R₂ N₂=> ?_)
 ·cases us with
  |nil=>exact⟨[.none],rfl,.cons rfl .nil⟩
  |cons _ _=>cases hu
 refine sY (x:=x.in1) (ys:=[]) (xs:=[.none]) R₂ (N₂.den (N₁.den dl)) (by simp [hlt]) (by rw [sizeLine_eq];decide) (fun us hu zz=> ?_) (by simp) fun s₃ R₃ N₃=> ?_
 ·cases us with
  |nil=>cases hu
  |cons v r=>cases r with
   |nil=>exact⟨[],rfl,.nil⟩
   |cons _ _=>exact absurd hu (by simp)
 have es:(objs.set kl (AO.list [AV.none])).set kl (.list [])=objs:=by
  rw [List.set_set]
  have:=List.getElem?_eq_some_iff.mp hol
  obtain⟨q1,q2⟩:=this
  rw [←q2]
  exact List.set_getElem_self q1
 rw [es]at R₃
 refine wpAny_pure ⟨plainId_quiet F.plain_extend_loop _, ?_⟩
 have N:=(N₁.trans N₂).trans N₃
 exact aD3 P (hx.le (Nat.le_succ _)) (N.den d) (N.den dl) R₃ fun s' ρ' R' N'=>kk s' ρ' R' (N.trans N')
end
end Mine
end
section
namespace Mine
section
variable {K:Params→Frag} {n k:Nat} {objs objs':List AO} {C fi fn:Addr} {fs:List (Str×AV)} {a:AV}
theorem aFp (I:Iterates K C fi fn) (ho:objs[k]?=some (.inst C fs)) (hi:DoesCall K (n+1) (.ref fi) [.obj k] [] (objs++[.list []]) (.obj k) (objs++[.list []])) (P:Pulls K n k objs.length (objs++[.list []]) objs'):
  DoesCall K (n+3) (.type "list") [.obj k] [] objs (.obj objs.length) objs':=by
 intro x hx loc ρ vs kvs ha hk s Q E R kk
 cases hk
 cases ha with| @cons _ u _ _ d ha=>
 cases ha
 have hlt:=(List.getElem?_eq_some_iff.mp ho).1
 have ho':(objs++[AO.list []])[k]?=some (.inst C fs):=by rw [List.getElem?_append_left hlt];exact ho
 have k0:∀b o,s.heap.get? b=some o→(s.heap.push ({cls:=.type "list",data:=.seq #[]}:Obj)).get? b=some o:=fun b o e=>Heap.get?_push_of_some _ e
 have hS:(s.heap.push ({cls:=.type "list",data:=.seq #[]}:Obj)).get? s.heap.objs.size=some {cls:=.type "list",data:=.seq #[]}:=Heap.get?_push_size _ rfl
 have hnew:∀a∈(⟨s.heap.objs.size,none⟩:OA).a::(⟨s.heap.objs.size,none⟩:OA).d.toList,s.heap.get? a=none:=by
  intro a ha
  rcases List.mem_cons.mp ha with rfl|ha
  ·exact Heap.get?_none_of_le (Nat.le_refl _)
  ·cases ha
 have RT:=R.track (x:=⟨s.heap.objs.size,none⟩) (o:=.list []) k0 hnew (by simp) ⟨[],0,rfl,hS,.nil⟩
 have NT:=Next.track (L:=x.L) (ρ:=ρ) (s:=s) (x:=⟨s.heap.objs.size,none⟩) k0 hnew
 have dl:den (ρ++[⟨s.heap.objs.size,none⟩]) (.obj objs.length) (.ref s.heap.objs.size):=bV R ⟨s.heap.objs.size,none⟩
 have hne:u≠ .ref s.heap.objs.size:=by
  refine nW (R.inst ho d) fun y dx es m hy q5_ hd h1 h2 hf=> ?_;subst q5_
  intro e
  have e:y.a=s.heap.objs.size:=by injection e
  exact absurd (Heap.lt_size h1) (by rw [e];exact Nat.lt_irrefl _)
 refine aJp (Q₁:=fun obj s₁=>obj= .ref s.heap.objs.size∧s₁={s with heap:=s.heap.push {cls:=.type "list",data:=.seq #[]}}) F.called_list (by decide) (F.typeCall_list_1 _) F.entry_list_init
  (aH0 (code_list_new _ ⟨rfl,rfl⟩)) fun obj s₁ h₁=> ?_
 refine cK h₁ fun q0_ q1_=> ?_;subst q0_;subst q1_
 refine⟨⟨_,hS,rfl⟩,F.args_list_init_2 _ _, ?_⟩
 show wpAny _ _ (do let old←Builtin.List.listItems (.ref s.heap.objs.size);Builtin.List.listUpdate (.ref s.heap.objs.size) (fun zz=> #[]);letGo old.toList.reverse;Builtin.List.listExtendWith (.ref s.heap.objs.size) u .none) _ _ _
 refine wpAny_bind ?_
 unfold Builtin.List.listItems
 refine wpAny_bind (wpAny_seqItems hS rfl (wpAny_pure ?_))
 show wpAny _ _ (updateSeq s.heap.objs.size (fun zz=> #[])>>=fun zz=>letGo (#[]:Array Value).toList.reverse>>=fun zz=>Builtin.List.listExtendWith (.ref s.heap.objs.size) u .none) _ _ _
 have hol:(objs++[AO.list []])[objs.length]?=some (.list []):=by simp
 refine wpAny_bind (sY (x:=x.in1.in1) (ys:=[]) RT dl hol (by simp) (fun us hu zz=>⟨[],rfl,.nil⟩) (by simp) fun s₂ R₂ N₂=> ?_)
 have es:(objs++[AO.list []]).set objs.length (.list [])=objs++[AO.list []]:=by simp
 rw [es]at R₂
 refine wpAny_bind (wpAny_letGo ?_)
 have N:=NT.trans N₂
 exact aF9 (x:=x.in1) I ho' hi hol P hx.in1 (N.den d) (N₂.den dl) hne R₂ fun s' ρ' R' N'=>⟨rfl,kk _ s' ρ' R' (N.trans N') (N'.den (N₂.den dl))⟩
end
end Mine
end
section
namespace Mine
structure Prog4 (K:Params→Frag):Prop extends Prog3 K where
 it:Iterates K 732 722 729
section
variable {K:Params→Frag} (hP:Prog4 K) {n:Nat} {objs:List AO}
include hP
theorem aJl:DoesCall K (n+1) (.ref 722) [.obj 0] [] objs (.obj 0) objs:=
 bZ hP.f722.fn (hb1 hP.b722) (by kernel_rfl) (bI (by kernel_rfl)) (fl:=.ret (.obj 0)) (loc':=[("self",.obj 0)])
  (aB (m:=20) (k:=20) (td:=[]) (obs:=[]) hP.tab (by kernel_rfl) all_nil) rfl
end
end Mine
end
section
namespace Mine
section
variable {K:Params→Frag} (hP:Prog4 K) {n:Nat} {S T L S' T' L' io io':AV} {tk:Str} {i1 i2:AO} {rest rest':List AO}
include hP
theorem lH (h:DoesCall K n (.ref 693) [.obj 0] [] (aG S T L::i1:: .deq []:: .deq []::rest) (.sym none tk) (aG S' T' L'::i2:: .deq []:: .deq []::rest')):
  DoesCall K (n+1) (.ref 729) [.obj 0] [] (aG S T L::i1:: .deq []:: .deq []::rest) (.sym none tk) (aG S' T' L'::i2:: .deq []:: .deq []::rest'):=
 bZ hP.f729.fn (hb1 hP.b729) (by kernel_rfl) (bI (by kernel_rfl)) (fl:=.ret (.sym none tk)) (loc':=[("self",.obj 0),("token",.sym none tk)])
  (aB (m:=20) (k:=20) (td:=[.c (.sym none tk) (aG S' T' L'::i2:: .deq []:: .deq []::rest')]) (obs:=[DoesCall K n (.ref 693) [.obj 0] [] (aG S T L::i1:: .deq []:: .deq []::rest) (.sym none tk) (aG S' T' L'::i2:: .deq []:: .deq []::rest')]) hP.tab (by kernel_rfl) (aA h all_nil)) rfl
end
end Mine
end
section
namespace Mine
section
variable {K:Params→Frag} {n:Nat} {sc:Scope} {x:Cx} {ρ:List OA} {st:AS} {pos np:Pos}
theorem aEn (hx:x.Ok K n sc) (hk:sc.names.lookup (("StopIteration":Str))=some .globalImplicit) (hg:iO (K x.w.params) "StopIteration" (.type "StopIteration")) {s:Shared} {Q:Flow→Shared→Prop} {E:Value→Shared→Prop} (R:Rel x.hb x.L x.fr ρ st s)
  (h:∀h' e,Heap.MadeExc s.heap h' e "StopIteration" []→E (.ref e) {s with heap:=h'}):wpAny (mx x) x.A (exec (.Raise (some (.Name "StopIteration" np)) none pos) x.env) Q E s:=by
 refine to1 (owsi_raiseC hx.handled ?_ h)
 refine aF fun gq hgq=> ?_
 refine vV (hx.glo.T) fun p loose mean mg mb T=> ?_
 subst hgq
 refine Name_function_global (by rw [hx.scope];exact hx.kind) (by show x.env.scope.names.lookup (("StopIteration":Str))=_;rw [hx.scope];exact hk) ?_ (by decide)
 have h1:s.heap.Ns x.env.globals mg:=by rw [hx.globals];exact T.g.keeps R.base
 have h2:s.heap.Ns x.env.builtins mb:=by rw [hx.builtins];exact T.b.keeps R.base
 rcases hg with e|⟨e,hv,hn⟩
 ·exact loadGlobal_global h1 (mg_of hx.glo.X T.g e) ⟨rfl,rfl⟩
 ·exact loadGlobal_builtin h1 (mg_none_of hx.glo.X T.g e) h2 ((T.builtins _ hn).trans hv) ⟨rfl,rfl⟩
end
end Mine
end
section
namespace Mine
theorem oZ {hb h:Heap} {bad:List Addr} {as:List Addr}:∀{fr:List Env},Frs hb h bad fr→(∀env∈fr,∀a,env.frame=some a→a∈as)→∀{h':Heap},(∀b o,h.get? b=some o→h'.get? b=some o)→h'.FunFrames (hideAll h as) fr
 |[],_,_,_,_=>trivial
 |env::r,F,hin,h',k=>by
  refine aF fun gq hgq=> ?_
  obtain⟨hk,L,o,es,n,hf,h1,h2,h3,h4⟩:=F env (.head _)
  subst hgq
  exact⟨hk,⟨L,o,hf,hideAll_none _ (hin env (.head _) L hf),k _ _ h3,fun vs e=>by rw [h4]at e;cases e⟩,oZ (fun e he=>F e (.tail _ he)) (fun e he=>hin e (.tail _ he)) k⟩
end Mine
end
section
namespace Mine
theorem aEw {M:Model} {A:Around} {env:Env} {outer:List Env} {L e:Addr} {hb h h':Heap} {bad:List Addr} {s:Shared} {Q:Unit→Shared→Prop} {E:Value→Shared→Prop} (hfr:A.frames=some (env::outer)) (hf:env.frame=some L) (F:Frs hb h bad (env::outer)) (hm:Heap.MadeExc h h' e "StopIteration" [])
  (kk:∀h'',(∀b o,h.get? b=some o→KeptAt h'' b o)→(∀b o,h.get? b=some o→b∉(env::outer).filterMap (·.frame)→h''.get? b=some o)→({s with heap:=h''}:Shared).TypeIs (.ref e) "StopIteration"→Q () {s with heap:=h''}):wpAny M A (leaving env (.ref e)) Q E {s with heap:=h'}:=by
 refine aH (hm.there) fun t he zz=> ?_
 have hin:∀v∈env::outer,∀b,v.frame=some b→b∈(env::outer).filterMap (·.frame):=fun v hv b hb=>List.mem_filterMap.mpr ⟨v,hv,hb⟩
 refine wpAny_leaving_first (base:=hideAll h ((env::outer).filterMap (·.frame))) hfr (oZ F hin hm.keeps) hf he (fun b o q=>hm.keeps b o (of_hideAll _ q)) ?_ rfl rfl fun h'' hl=> ?_
 ·cases q:(hideAll h ((env::outer).filterMap (·.frame))).get? e with
  |none=>rfl
  |some o=>have:=of_hideAll _ q;rw [hm.new]at this;cases this
 ·refine vW hl fun l1 l2 l3 l4=> ?_
  refine kk h'' (fun b o q=> ?_) (fun b o q hbm=>l1 b o (hideAll_get _ q hbm)) ?_
  ·by_cases hbm:b∈(env::outer).filterMap (·.frame)
   ·refine aH (List.mem_filterMap.mp hbm) fun v hv hb=> ?_
    obtain⟨hk,L',o',es,n,hf',h1,h2,h3,h4⟩:=F v hv
    have hb:v.frame=some b:=hb
    rw [hf']at hb
    obtain rfl:=Option.some.inj hb
    rw [h3]at q
    obtain rfl:=Option.some.inj q
    obtain⟨sl,e2⟩:=l4 _ _ (hm.keeps _ _ h3) fun vs q=>by rw [h4]at q;cases q
    exact⟨_,e2,rfl,rfl,rfl,fun z=>absurd h4 (z es n)⟩
   ·exact .of (l1 b o (hideAll_get _ q hbm))
  ·refine aH8 l3 fun oe vs T oT ts a1 a2 zz=> ?_
   exact⟨oe,a1,a2⟩
end Mine
end
section
namespace Mine
theorem Rel.left {hb h':Heap} {L:Addr} {fr fr':List Env} {ρ:List OA} {st:AS} {s:Shared} (R:Rel hb L fr ρ st s) (hF:Frs hb s.heap (aS ρ) fr') (k1:∀b o,s.heap.get? b=some o→KeptAt h' b o) (k2:∀b o,s.heap.get? b=some o→b∉fr'.filterMap (·.frame)→h'.get? b=some o):
  Rel hb L fr ρ st {s with heap:=h'}:=by
 have nf:∀b,b∈fr'.filterMap (·.frame)→hb.get? b=none∧b∉aS ρ:=fun b hm=>by
  refine aF fun gq hgq=> ?_
  refine aH (List.mem_filterMap.mp hm) fun v hv e=> ?_
  obtain⟨_,L',_,_,_,hf,h1,h2,_⟩:=hF v hv
  subst hgq
  have e:v.frame=some b:=e
  rw [hf]at e
  obtain rfl:=Option.some.inj e
  exact⟨h1,h2⟩
 refine aF fun gq hgq=> ?_
 obtain⟨m,⟨oL,es,ep,h1,h2⟩,hl⟩:=R.loc
 refine aH (k1 _ _ h1) fun oL' h1' kp=> ?_
 subst hgq
 refine⟨fun b o e=>k2 b o (R.base b o e) fun q=> ?_,⟨m,⟨oL',es,ep,h1',kp.data.trans h2.1,h2.2⟩,hl⟩,R.above,R.len,fun i o e=> ?_,R.apart,R.new,fun env he=> ?_,R.tk⟩
 ·rw [(nf b q).1]at e;cases e
 ·refine aH (R.objs i o e) fun x hx r=> ?_
  exact⟨x,hx,r.keep fun b hbx o e=>k2 b o e fun q=>(nf b q).2 (List.mem_flatMap.mpr ⟨x,List.mem_of_getElem? hx,hbx⟩)⟩
 ·obtain⟨hk,L',o,es,n,a,b,c,d,e⟩:=R.frs env he
  refine aH (k1 _ _ d) fun o' e1 kp=> ?_
  exact⟨hk,L',o',es,n,a,b,c,e1,kp.data.trans e⟩
end Mine
end
section
namespace Mine
noncomputable def jW (K:Params→Frag) (n:Nat) (sc:Scope) (body:List Stmt) (st st':AS):Prop:=∀x:Cx,x.Ok K n sc→∀ρ (s:Shared) (Q:Flow→Shared→Prop) (E:Value→Shared→Prop),Rel x.hb x.L x.fr ρ st s→
 (∀(s':Shared) ρ' h' e,Rel x.hb x.L x.fr ρ' st' s'→Next x.L ρ s ρ' s'→Heap.MadeExc s'.heap h' e "StopIteration" []→E (.ref e) {s' with heap:=h'})→wpAny (mx x) x.A (execs body x.env) Q E s
noncomputable def aAe (K:Params→Frag) (n:Nat) (u:Value) (args:List AV) (kws:List (Str×AV)) (objs objs':List AO):Prop:=∀x:Cx,x.Run K n→∀loc ρ vs kvs,All2 (den ρ) args vs→cY ρ kws kvs→∀(s:Shared) (Q:Value→Shared→Prop) (E:Value→Shared→Prop),Rel x.hb x.L x.fr ρ ⟨loc,objs⟩ s→
 (∀(s':Shared) ρ' e,Rel x.hb x.L x.fr ρ' ⟨loc,objs'⟩ s'→Next x.L ρ s ρ' s'→s'.TypeIs (.ref e) "StopIteration"→E (.ref e) s')→codeAny (mx x) x.A (.call u ⟨vs,kvs⟩) (wants Q E) s
theorem aLu {K:Params→Frag} {n:Nat} {f:Addr} {sc:Scope} {body:List Stmt} {fd:Params→FuncData} (F:Fn K f sc body fd) {args:List AV} {kws:List (Str×AV)} {loc loc':List (Str×AV)} {objs objs':List AO}
  (hb:∀P ρ vs kvs,All2 (den ρ) args vs→cY ρ kws kvs→∃binds,(∀s:Shared,(K P).In s.heap→BindsTo s (fd P) ⟨vs,kvs⟩ binds)∧cY ρ loc binds)
  (hn:kV loc=true) (hl:(loc.all fun y=>decide (sc.names.lookup y.1=some .local))=true)
  (h:jW K n sc body ⟨loc,objs⟩ ⟨loc',objs'⟩):aAe K (n+1) (.ref f) args kws objs objs':=by
 intro x hx cloc ρ vs kvs ha hk s Q E R kk
 refine vV (hx.glo.T) fun p loose mean mg mb T=> ?_
 have X:=hx.glo.X.keeps R.base
 refine aH (hb x.w.params ρ vs kvs ha hk) fun binds hbd hloc=> ?_
 refine aH (Option.map_eq_some_iff.mp (F.at_ x.w.params)) fun o ho hd=> ?_
 have hp:=F.plain
 have hsc:=F.scope x.w.params
 refine rL (s₂:=s) (zH hx) (X _ _ ho) hd (T.nolimit.keeps R.base) (codeRec_of X (F.code _)) (F.body _) (fun A E Q q=>hbd s X _ _ _ _ q) (by rw [hsc];exact hp.1) (by rw [hsc];exact hp.2.1) (by rw [hsc];exact hp.2.2.1) (by rw [hsc];exact hp.2.2.2) (fun y hy=>by rw [hsc];exact uF hloc hl y hy) fun h' hn' hk' hz'=> ?_
 refine h _ (pD F hx) ρ _ _ _ (qE F R hn' hk' (lS hloc hn)) fun s' ρ' hq e R2 N2 hm=> ?_
 refine aEw (pD F hx).frames rfl R2.frs hm fun h'' k1 k2 hT=> ?_
 refine cK (pY R hk' R2 N2) fun Rr hN=> ?_
 exact kk _ ρ' e (Rr.left (fr':=(aM1 x (fd x.w.params) f s.heap.objs.size).fr) R2.frs k1 k2) (hN.trans ⟨⟨[],by simp,by simp [aS]⟩,fun b o e zz zz=>k1 b o e,rfl,rfl⟩) hT
end Mine
end
section
namespace Mine
section
variable {K:Params→Frag} {n k:Nat} {objs objs':List AO} {C fi fn:Addr} {fs:List (Str×AV)}
theorem qX (I:Iterates K C fi fn) (ho:objs[k]?=some (.inst C fs)) (h:aAe K n (.ref fn) [.obj k] [] objs objs'):aAf K n k objs none objs':=by
 intro x hx loc ρ u s Q E d R kk
 refine aF fun gq hgq=> ?_
 refine nW (R.inst ho d) fun y dx es m hy q5_ hd h1 h2 hf=> ?_;subst q5_
 subst hgq
 refine aBs (hx.glo.X.keeps R.base) (jN h1 h2) (I.next _) (I.isN _) (wpAny_call (h x hx loc ρ [.ref y.a] [] (.cons d .nil) .nil s _ _ R fun s' ρ' e R' N' hT=> ?_))
 unfold OwitStop
 refine wpAny_isInstance hT owsi_facts.sub ?_
 show(if true=true then _ else _)
 rw [if_pos rfl]
 exact kk _ _ _ R' N' trivial
end
end Mine
end
section
namespace Mine
theorem aJc {l r:List Stmt} {env:Env}:execs (l++r) env=(do match←execs l env with| .next=>execs r env|f=>pure f):=by
 induction l with
 |nil=>rw [List.nil_append,arm_execs_nil];rfl
 |cons s l ih=>
  rw [List.cons_append,arm_execs_cons,arm_execs_cons,ih]
  show Sem.bind _ _=Sem.bind (Sem.bind _ _) _
  rw [Sem.bind_assoc]
  congr
  funext a
  cases a<;>rfl
section
variable {K:Params→Frag} {n:Nat} {sc:Scope} {st st₁ st₂:AS}
theorem aAt {l r:List Stmt} (h:DoesB K n sc l st .next st₁) (k:jW K n sc r st₁ st₂):jW K n sc (l++r) st st₂:=by
 intro x hx ρ s Q E R kk
 rw [aJc]
 refine wpAny_bind (h x hx ρ s _ _ R fun f s' ρ' R' N' d=> ?_)
 have:f= .next:=d
 subst this
 exact k x hx ρ' s' _ _ R' fun s'' ρ'' h' e R2 N2 hm=>kk s'' ρ'' h' e R2 (N'.trans N2) hm
theorem aDr {c:Expr} {body orelse r:List Stmt} {pos:Pos} (h:cW K n sc c st true st₁) (k:jW K n sc body st₁ st₂):jW K n sc (.If c body orelse pos::r) st st₂:=by
 intro x hx ρ s Q E R kk
 rw [arm_execs_cons,arm_exec_If]
 refine wpAny_bind (wpAny_bind (wpAny_standAt (wpAny_bind (h x hx ρ s _ _ R fun b s' ρ' R' N' e=> ?_))))
 subst e
 exact k x hx ρ' s' _ _ R' fun s'' ρ'' h' e R2 N2 hm=>kk s'' ρ'' h' e R2 (N'.trans N2) hm
theorem vX {r:List Stmt} {np pos:Pos} (hk:sc.names.lookup (("StopIteration":Str))=some .globalImplicit) (hg:∀P,iO (K P) "StopIteration" (.type "StopIteration")):jW K n sc (.Raise (some (.Name "StopIteration" np)) none pos::r) st st:=by
 intro x hx ρ s Q E R kk
 rw [arm_execs_cons]
 exact wpAny_bind (aEn hx hk (hg _) R fun h' e hm=>kk s ρ h' e R (.refl ..) hm)
end
section
variable {K:Params→Frag} (hP:Prog4 K) {n:Nat} {S T L S' T' L' io io':AV} {i1 i2:AO} {rest rest':List AO}
include hP
noncomputable def nxB:List Stmt:=aO (aC shB 10)
noncomputable def aPw:Scope:=bC (aC shB 10)
theorem lI (h:DoesCall K n (.ref 693) [.obj 0] [] (aG S T L::i1:: .deq []:: .deq []::rest) .none (aG S' T' L'::i2:: .deq []:: .deq []::rest')):
  aAe K (n+1) (.ref 729) [.obj 0] [] (aG S T L::i1:: .deq []:: .deq []::rest) (aG S' T' L'::i2:: .deq []:: .deq []::rest'):=by
 refine aLu hP.f729.fn (hb1 hP.b729) (by kernel_rfl) (bI (by kernel_rfl)) (loc':=[("self",.obj 0),("token",.none)]) ?_
 have e0:nxB=[aC nxB 0,aC nxB 1,aC nxB 2]:=by kernel_rfl
 have e1:∃c np p1 p2,aC nxB 1= .If c [.Raise (some (.Name "StopIteration" np)) none p1] [] p2:=⟨_,_,_,_,rfl⟩
 refine aF fun gq hgq=> ?_
 refine aJv e1 fun c np p1 p2 e1=> ?_
 subst hgq
 show jW K n aPw nxB _ _
 rw [e0,e1]
 have hT:cW K n aPw (stE (aC nxB 1)) ⟨[("self",.obj 0),("token",.none)],aG S' T' L'::i2:: .deq []:: .deq []::rest'⟩ true ⟨[("self",.obj 0),("token",.none)],aG S' T' L'::i2:: .deq []:: .deq []::rest'⟩:=
  eO (m:=20) (td:=[]) (obs:=[]) hP.tab (by kernel_rfl) all_nil
 rw [e1]at hT
 have h0:DoesB K n aPw [aC nxB 0] ⟨[("self",.obj 0)],aG S T L::i1:: .deq []:: .deq []::rest⟩ .next ⟨[("self",.obj 0),("token",.none)],aG S' T' L'::i2:: .deq []:: .deq []::rest'⟩:=
  aB (m:=20) (k:=20) (td:=[.c .none (aG S' T' L'::i2:: .deq []:: .deq []::rest')]) (obs:=[DoesCall K n (.ref 693) [.obj 0] [] (aG S T L::i1:: .deq []:: .deq []::rest) .none (aG S' T' L'::i2:: .deq []:: .deq []::rest')]) hP.tab (by kernel_rfl) (aA h all_nil)
 refine aAt h0 ?_
 refine aDr hT (vX ?_ fun P=>(hP.tab.glb "StopIteration" _ (by kernel_rfl) P).1)
 rw [aN];kernel_rfl
end
end Mine
end
section
namespace Mine
open PySem.Builtin PySem.Builtin.Re PySem.W
theorem aO9:typeOf (.builtin "str.maketrans")=pure (.type "builtin_function_or_method"):=by show builtinType _=_;rw [builtinType_eq_fast];kernel_rfl
theorem aOo:typeLookup (.type "str") "maketrans"=pure (some (.builtin "str.maketrans")):=by rw [typeLookup_type,builtinLookup_eq_fast];kernel_rfl
theorem aIy:typeLookup (.type "builtin_function_or_method") "__get__"=pure none:=by rw [typeLookup_type,builtinLookup_eq_fast];kernel_rfl
theorem slot_str_ga:Slot "str" "__getattribute__" "object.__getattribute__":=
 .of (owner:="object") (n:="__getattribute__") (by rw [typeLookup_type,builtinLookup_eq_fast];kernel_rfl) (by decide+kernel) (by decide+kernel) (by decide+kernel)
  (by first|exact .inl (by decide+kernel)|exact .inr (by decide+kernel)) (by rw [isSubtype_type];kernel_rfl)
section
variable {prog:Program} {w:World} {A:Around} {E:Value→Shared→Prop} {s:Shared} {y:Str} {tk:Tok}
theorem aNk {Q:Value→Shared→Prop} (hq:Q (.builtin "str.maketrans") {s with toks:=s.toks+1}):
  wpAny (model prog w) A (getAttr (.str y tk) "maketrans") Q E s:=by
 have hT:∀s:Shared,s.TypeIs (.str y tk) "str":=fun s=>typeIs_str _ _ _
 have hT5:∀s:Shared,s.TypeIs (.builtin "str.maketrans") "builtin_function_or_method":=fun s=>aO9
 have f2:=slot_str_ga.lookup
 have f3:=slot_str_ga.bind (.str y tk)
 unfold getAttr
 refine wpAny_bind (wpAny_mkText ?_)
 unfold getAttrBy
 refine wpAny_holding (wpAny_bind (wpAny_typeOf (hT _) (wpAny_bind (wpAny_of_eq f2 ?_))))
 show wpAny _ _ (getAttrByItsOwn _ _ (.type "str") (.builtin "object.__getattribute__") true false) _ _ _
 unfold getAttrByItsOwn
 refine wpAny_bind (wpAny_of_eq (a:=none) rfl ?_)
 refine wpAny_bind (wpAny_attempt (wpAny_holding ?_))
 show wpAny _ _ (boundAndCalled (.builtin "object.__getattribute__") (.str y tk) (.str "maketrans" s.toks)) _ _ _
 unfold boundAndCalled
 refine wpAny_bind (wpAny_of_eq f3 ?_)
 refine wpAny_call_entry slot_str_ga (hT _) F.entry_object_getattribute ?_ (F.args_object_getattribute_2 _ _)
 unfold Builtin.«object.__getattribute__»
 refine wpAny_bind (m:=slotArgs "__getattribute__" 1 ⟨[.str y tk,.str "maketrans" s.toks],[]⟩) (wpAny_pure ?_)
 refine wpAny_bind (m:=ObjectAttr.attrName (.str "maketrans" s.toks)) (wpAny_pure ?_)
 refine wpAny_bind (wpAny_typeOf (hT _) ?_)
 refine wpAny_bind ?_
 unfold ObjectAttr.find
 refine wpAny_bind (wpAny_of_eq aOo ?_)
 refine wpAny_bind (m:=ObjectAttr.getOf _) (wpAny_specialOf (T:="builtin_function_or_method") (name:=Str.ofString "__get__") (hT5 _) aIy ?_)
 refine wpAny_bind (wpAny_pure ?_)
 dsimp only
 unfold ObjectAttr.ownThenClass ObjectAttr.inOwnDict
 dsimp only
 refine wpAny_bind (wpAny_pure ?_)
 dsimp only
 refine wpAny_bind (m:=ObjectAttr.copiedAttributeGuard _ _) (wpAny_pure ?_)
 unfold ObjectAttr.byTheClass
 refine wpAny_bind (wpAny_rule (wpAny_bind (handed_on rfl (wpAny_pure ?_))))
 dsimp only
 exact wpAny_pure ⟨_,rfl,handed_on rfl hq⟩
theorem aF3 {v:Value} {T id:String} {name:Str} {f:Value} {pl:Sem Bool} {Q:Value×List Value→Shared→Prop} (hT:s.TypeIs v T) (pa:PlainAttrs T) (hl:typeLookup (.type T) name=pure (some f)) (hty:typeOf f=pure (.type id)) (h1:(Value.type id != .type "function")=true) (h2:(Value.type id != .type "method_descriptor")=true) (h3:(Value.type id != .type "wrapper_descriptor")=true)
  (h:wpAny (model prog w) A (getAttr v name) (fun r s'=>Q (r,[]) s') E s):wpAny (model prog w) A (getMethod v name pl) Q E s:=by
 refine aH (pa.ga) fun g hg hcan=> ?_
 unfold getMethod
 refine wpAny_bind (wpAny_specialOf hT hg ?_)
 show wpAny _ A (if(Manifest.canonical g !="object.__getattribute__")=true then _ else _) Q E s
 rw [hcan,if_neg Bool.false_ne_true]
 refine wpAny_bind (wpAny_specialOf hT pa.noGetattr ?_)
 refine wpAny_bind (wpAny_specialOf hT hl ?_)
 refine wpAny_bind (wpAny_of_eq hty ?_)
 refine KFB.if_so (by rw [h1,h2,h3];rfl) ?_
 exact wpAny_bind (wpAny_mono h (fun zz zz z=>wpAny_pure z) fun zz zz z=>z)
theorem aNt {pl:Sem Bool} {Q:Value×List Value→Shared→Prop} (hq:Q (.builtin "str.maketrans",[]) {s with toks:=s.toks+1}):
  wpAny (model prog w) A (getMethod (.str y tk) "maketrans" pl) Q E s:=by
 refine aF3 (T:="str") (id:="builtin_function_or_method") (f:=.builtin "str.maketrans") ?_ ?_ ?_ ?_ ?_ ?_ ?_ ?_
 ·exact typeIs_str _ _ _
 ·exact F.plainAttrs_str
 ·exact aOo
 ·exact aO9
 ·decide
 ·decide
 ·decide
 ·exact aNk hq
end
noncomputable def fJ:Obj:={cls:=.type "builtin_function_or_method",data:=.fields #[.builtin "dict.fromkeys",.type "dict"]}
theorem aL8:(kfb_private%"ownerAndName") "dict.fromkeys"=("dict","fromkeys"):=by first|decide+kernel|kernel_rfl
theorem aMn:typeOf (.builtin "dict.fromkeys")=pure (.type "classmethod_descriptor"):=by show builtinType _=_;rw [builtinType_eq_fast];kernel_rfl
theorem aLq:entryFor table "dict.fromkeys"=some Builtin.«dict.fromkeys»:=entryFor_of_tree (by kernel_rfl)
theorem yE:entryFor table "dict.fromkeys.loop"=some Builtin.«dict.fromkeys.loop»:=entryFor_of_tree (by kernel_rfl)
theorem aL2 {as:Args}:(Code.builtin "dict.fromkeys" as).quiet=true:=Code.quiet_builtin _ (by decide+kernel)
theorem xM {as:Args}:(Code.builtin "dict.fromkeys.loop" as).quiet=true:=Code.quiet_builtin _ (by decide+kernel)
theorem rA:isType (.type "dict")=pure true:=by first|rfl|kernel_rfl|(unfold isType;rw [isSubtype_type];kernel_rfl)
section
variable {prog:Program} {w:World} {M:Model} {A:Around} {E:Value→Shared→Prop} {s:Shared} {K:Frag} {y:Str} {tk:Tok}
theorem aId {P:Fin→Shared→Prop} (h:P (.done (.ret (.ref s.heap.objs.size))) {s with heap:=s.heap.push fJ}):
  wpAny M A (Builtin.«classmethod_descriptor.__get__» ⟨[.builtin "dict.fromkeys",.none,.type "dict"],[]⟩) P E s:=by
 unfold Builtin.«classmethod_descriptor.__get__»
 refine wpAny_bind (wpAny_of_eq (a:=(.builtin "dict.fromkeys",none,some (.type "dict"))) (by first|rfl|kernel_rfl) ?_)
 simp only [aL8]
 refine wpAny_bind (wpAny_of_eq (a:=.type "dict") rfl ?_)
 refine wpAny_bind (wpAny_of_eq (a:=true) rA ?_)
 refine KFB.if_not rfl ?_
 refine wpAny_bind (wpAny_of_eq (a:=true) F.kt_sub_dict ?_)
 refine KFB.if_not rfl ?_
 exact wpAny_bind (wpAny_newObj_type (wpAny_pure h))
theorem aNu {pl:Sem Bool} {Q:Value×List Value→Shared→Prop} (X:K.In s.heap)
  (e:findCls K (.type "dict") (.type "type") (PySem.Str.ofString "fromkeys")=some (.get (.builtin "classmethod_descriptor.__get__") (.builtin "dict.fromkeys") .none (.type "dict")))
  (h:Q (.ref s.heap.objs.size,[]) {s with heap:=s.heap.push fJ,toks:=s.toks+1}):
  wpAny (model prog w) A (getMethod (.type "dict") (PySem.Str.ofString "fromkeys") pl) Q E s:=by
 have hstub:opaqueClassAbove (.type "dict")=pure none:=by unfold opaqueClassAbove;dsimp only;rw [show Manifest.isStub "dict"=false by decide+kernel];rfl
 have ht:typeOf (.type "dict")=pure (.type "type"):=by first|rfl|kernel_rfl
 have L0:Looks (model prog w) s.heap (typeOf (.type "dict")) (.type "type"):=Looks.of_pure ht
 have hg:findIn K (.type "type") "__getattribute__"=some (some (.builtin "type.__getattribute__")):=type_tga
 unfold getMethod specialOf
 refine wpAny_bind (wpAny_bind (L0.here ((looks_findIn X hg).here ?_)))
 dsimp only
 rw [if_pos canon_tga]
 refine wpAny_bind (wpAny_mono (Q:=fun v=>Q (v,[])) (E:=E) ?_ (fun zz zz z=>wpAny_pure z) fun zz zz z=>z)
 have LO:Looks (model prog w) s.heap (opaqueClassAbove (.type "dict")) none:=Looks.of_pure hstub
 refine cls_open X LO L0 hg (looks_hook X (r:=none) (by rfl)) (by show subIn K _ _=_;rfl) e ?_
 show wpAny _ _ (holding [.builtin "dict.fromkeys"] (call (.builtin "classmethod_descriptor.__get__") [.builtin "dict.fromkeys",.none,.type "dict"])>>=fun v=>ret v) _ _ _
 exact wpAny_bind (wpAny_holding (wpAny_call_entry KFB.slot_get aMn KFB.entry_get (aId ⟨_,rfl,wpAny_pure (wpAny_pure h)⟩) (KFB.args_get _ _ _)))
theorem aFq {Q:Value→Shared→Prop} (h:Q (.ref s.heap.objs.size) {s with heap:=s.heap.push {cls:=.type "dict",data:=.dict #[]}}):wpAny (model prog w) A (call (.type "dict") []) Q E s:=by
 have hsub:=F.kt_sub_dict
 have hmro:=F.kt_mro_dict
 refine callType_codes (Q₁:=fun obj s₁=>obj= .ref s.heap.objs.size∧s₁={s with heap:=s.heap.push {cls:=.type "dict",data:=.dict #[]}}) F.kt_called_dict (by kernel_rfl) F.entry_dict_init ?_ ?_
 ·refine codeAny_call_builtin F.kt_plain_dict_new F.kt_entry_dict_new (wpAny_of_eq (show checkBuiltinCall "dict.__new__" ⟨[.type "dict"],[]⟩=pure () by kernel_rfl) ?_)
  obtain⟨hp,g,d,tk,os⟩:=s
  unfold Builtin.«dict.__new__»
  wp_walk
  exact⟨rfl,rfl⟩
 rintro obj s₁ ⟨rfl,rfl⟩
 have hT:({s with heap:=s.heap.push {cls:=.type "dict",data:=.dict #[]}}:Shared).TypeIs (.ref s.heap.objs.size) "dict":=⟨_,Heap.get?_push_size _ rfl,rfl⟩
 refine⟨hT,F.args_dict_init_1 _, ?_⟩
 unfold Builtin.«dict.__init__»
 refine wpAny_bind ?_
 unfold Builtin.Dict.selfAndRest
 refine wpAny_bind (wpAny_notOrdered_dict hT ?_)
 show wpAny _ _ (pure (s.heap.objs.size,([]:List Value))) _ _ _
 refine wpAny_pure ?_
 show wpAny _ _ (Builtin.Dict.addKeywords s.heap.objs.size []>>=_) _ _ _
 exact wpAny_bind (wpAny_pure (wpAny_pure ⟨rfl,h⟩))
end
end Mine
end
section
namespace Mine
open PySem.Builtin PySem.Builtin.Re PySem.W
section
variable {prog:Program} {w:World} {A:Around} {E:Value→Shared→Prop} {s:Shared} {d it:Addr} {x:Str} {t:Tok} {i c:Nat} {kvs:List (Str×Value)} {R:Result→Shared→Prop}
theorem aGs (hd:s.heap.DictOf (PySem.strKind prog w) d kvs) (hi:s.heap.IsStrIter it "str_ascii_iterator" x t i) (hx:x.cps[i]?=some c) (hne:it≠d) (hz:kvs.length≤1000)
  (h:∀h',h'.DictOf (PySem.strKind prog w) d (stored kvs ⟨#[c]⟩ .none)→h'.IsStrIter it "str_ascii_iterator" x t (i+1)→(∀b o,b≠d→b≠it→s.heap.get? b=some o→h'.get? b=some o)→
   codeAny (model prog w) A (.builtin "dict.fromkeys.loop" ⟨[.ref d,.ref it,.none],[]⟩) R {s with heap:=h',toks:=s.toks+1+1}):
  codeAny (model prog w) A (.builtin "dict.fromkeys.loop" ⟨[.ref d,.ref it,.none],[]⟩) R s:=by
 refine codeAny_builtin yE ?_
 unfold Builtin.«dict.fromkeys.loop»
 refine wpAny_bind (wpAny_pyNext_ascii_item hi hx fun h1 i1 s1=> ?_)
 have d1:h1.DictOf (PySem.strKind prog w) d kvs:=hd.sameBut s1 (Ne.symm hne)
 refine wpAny_bind (wpAny_typeOf (s:={s with heap:=h1,toks:=s.toks+1}) d1.typeIs ?_)
 refine KFB.if_so (by decide+kernel) ?_
 refine wpAny_bind (wpAny_pure (wpAny_bind (wpAny_holding ?_)))
 refine wpAny_dictSet_pairs (s:={s with heap:=h1,toks:=s.toks+1}) (k:=⟨#[c]⟩) (by simp [PySem.strKind,Value.isStrOf]) d1 (fun h2 d2 s2=> ?_) (by rw [sizeLine_eq];lia)
 refine wpAny_pure ⟨xM, ?_⟩
 refine aF fun gq hgq=> ?_
 refine iR i1 fun o a1 a2 a3=> ?_
 subst hgq
 exact h h2 d2 ⟨o,(s2.2 _ hne).trans a1,a2,a3⟩ fun b o n1 n2 e=>(s2.2 _ n1).trans ((s1.2 _ n2).trans e)
theorem aQ7 (hA:A.handled=none) (hi:s.heap.IsStrIter it "str_ascii_iterator" x t i) (hx:x.cps[i]?=none) (h:∀h',Heap.ExtBut it s.heap h'→R (.ok (.ret (.ref d))) {s with heap:=h'}):
  codeAny (model prog w) A (.builtin "dict.fromkeys.loop" ⟨[.ref d,.ref it,.none],[]⟩) R s:=by
 refine codeAny_builtin yE ?_
 unfold Builtin.«dict.fromkeys.loop»
 exact wpAny_bind (wpAny_pyNext_ascii_end hA hi hx fun h' k=>wpAny_pure (h h' k))
theorem aO3 {u:Addr} {Q:Value→Shared→Prop} (hA:A.handled=none) (ho:s.heap.get? u=some fJ)
  (h:∀h' k,(∀b o,s.heap.get? b=some o→h'.get? b=some o)→h'.DictOf (PySem.strKind prog w) s.heap.objs.size [(⟨#[91]⟩,.none),(⟨#[93]⟩,.none)]→Q (.ref s.heap.objs.size) {s with heap:=h',toks:=s.toks+k}):
  wpAny (model prog w) A (call (.ref u) [.str ⟨#[91,93]⟩ t]) Q E s:=by
 refine wpAny_call (codeAny_of_tree ?_)
 show wpAny _ A.in1 (callAny (.ref u) ⟨[.str ⟨#[91,93]⟩ t],[]⟩) _ _ s
 simp only [callAny]
 refine wpAny_bind (wpAny_load ho ?_)
 simp only [fJ]
 refine KFB.if_so (by decide) ?_
 refine wpAny_bind (wpAny_of_eq (a:=()) (show checkBoundCall "dict.fromkeys" ⟨[.type "dict",.str ⟨#[91,93]⟩ t],[]⟩=pure () by first|kernel_rfl|rfl) ?_)
 refine wpAny_bind (wpAny_pure (wpAny_pure ⟨aL2,codeAny_builtin aLq ?_⟩))
 unfold Builtin.«dict.fromkeys»
 refine wpAny_bind (wpAny_of_eq (a:=true) rA ?_)
 refine KFB.if_not rfl ?_
 refine wpAny_bind (wpAny_of_eq (a:=true) F.kt_sub_dict ?_)
 refine KFB.if_not rfl ?_
 refine KFB.if_not rfl ?_
 refine wpAny_bind (wpAny_rule (wpAny_bind (wpAny_pure ?_)))
 refine wpAny_bind (aFq ?_)
 refine wpAny_holding ?_
 have hT:({s with heap:=s.heap.push {cls:=.type "dict",data:=.dict #[]}}:Shared).TypeIs (.ref s.heap.objs.size) "dict":=⟨_,Heap.get?_push_size _ rfl,rfl⟩
 refine wpAny_bind (wpAny_typeOf (typeIs_str _ _ _) ?_)
 refine wpAny_bind (wpAny_typeOf hT ?_)
 refine KFB.if_not (by decide+kernel) ?_
 refine wpAny_bind (wpAny_typeOf hT ?_)
 refine KFB.if_not (by decide+kernel) ?_
 refine wpAny_bind (wpAny_pyIter_ascii (by simp) ?_)
 refine wpAny_pure ⟨xM, ?_⟩
 have hz:(s.heap.push {cls:=.type "dict",data:=.dict #[]}).objs.size=s.heap.objs.size+1:=Heap.size_push ..
 have hn:(s.heap.push {cls:=.type "dict",data:=.dict #[]}).objs.size≠s.heap.objs.size:=by rw [hz];lia
 have d0:((s.heap.push {cls:=.type "dict",data:=.dict #[]}).push {cls:=.type "str_ascii_iterator",data:=.fields #[.str ⟨#[91,93]⟩ t,.int 0 0]}).DictOf (PySem.strKind prog w) s.heap.objs.size []:=(Heap.DictOf.new _).push _
 have i0:((s.heap.push {cls:=.type "dict",data:=.dict #[]}).push {cls:=.type "str_ascii_iterator",data:=.fields #[.str ⟨#[91,93]⟩ t,.int 0 0]}).IsStrIter (s.heap.push {cls:=.type "dict",data:=.dict #[]}).objs.size "str_ascii_iterator" ⟨#[91,93]⟩ t 0:=⟨_,Heap.get?_push_size _ rfl,rfl,rfl⟩
 refine aGs (c:=91) d0 i0 rfl hn (by simp) fun h1 d1 i1 k1=> ?_
 refine aGs (c:=93) d1 i1 rfl hn (by decide) fun h2 d2 i2 k2=> ?_
 refine aQ7 hA i2 rfl fun h3 k3=> ?_
 have hN:s.heap.get? s.heap.objs.size=none:=Heap.get?_none_of_le (Nat.le_refl _)
 have hN2:s.heap.get? (s.heap.push {cls:=.type "dict",data:=.dict #[]}).objs.size=none:=Heap.get?_none_of_le (by rw [hz];lia)
 refine h h3 4 (fun b o e=> ?_) (d2.extBut k3 (Ne.symm hn))
 have n1:b≠s.heap.objs.size:=fun q=>by rw [q,hN]at e;cases e
 have n2:b≠(s.heap.push {cls:=.type "dict",data:=.dict #[]}).objs.size:=fun q=>by rw [q,hN2]at e;cases e
 exact k3 b o n2 (k2 b o n1 n2 (k1 b o n1 n2 (Heap.get?_push_of_some _ (Heap.get?_push_of_some _ e))))
end
end Mine
end
section
namespace Mine
open PySem.Builtin PySem.Builtin.Re PySem.W
section
variable {prog:Program} {w:World} {A:Around} {E:Value→Shared→Prop} {s:Shared} {d:Addr}
theorem aPq {P:Fin→Shared→Prop} (hs:(d==sysModules)=false) (hd:s.heap.DictOf (PySem.strKind prog w) d [(⟨#[91]⟩,.none),(⟨#[93]⟩,.none)])
  (h:∀h' k,(∀b o,s.heap.get? b=some o→h'.get? b=some o)→h'.DictOf (PySem.intKind prog w) s.heap.objs.size [(91,.none),(93,.none)]→P (.done (.ret (.ref s.heap.objs.size))) {s with heap:=h',toks:=s.toks+k}):
  wpAny (model prog w) A (Builtin.«str.maketrans» ⟨[.ref d],[]⟩) P E s:=by
 have hl:s.heap.get? d≠none:=by obtain⟨o,_,_,e,_⟩:=hd;rw [e];simp
 have hdn:d≠s.heap.objs.size:=fun q=>hl (by rw [q];exact Heap.get?_none_of_le (Nat.le_refl _))
 have hd1:(s.heap.push {cls:=.type "dict",data:=.dict #[]}).DictOf (PySem.strKind prog w) d [(⟨#[91]⟩,.none),(⟨#[93]⟩,.none)]:=hd.push _
 have hm0:(s.heap.push {cls:=.type "dict",data:=.dict #[]}).DictOf (PySem.intKind prog w) s.heap.objs.size []:=Heap.DictOf.new s.heap
 refine aF fun gq hgq=> ?_
 refine aQp hd1 fun o es ep ho hc hdt hk hp hnd=> ?_
 obtain⟨es⟩:=es
 cases hp with| @cons e1 _ es _ p1 v1 hp=>
 cases hp with| @cons e2 _ es _ p2 v2 hp=>
 cases hp
 refine cB (Value.isStrOf_shape p1) fun t1 k1=> ?_
 refine cB (Value.isStrOf_shape p2) fun t2 k2=> ?_
 subst hgq
 have ef:∀(f:DictEntry→PUnit→Sem (ForInStep PUnit)),forIn (m:=Sem) (⟨[e1,e2]⟩:Array DictEntry) PUnit.unit f=(f e1 PUnit.unit>>=fun r=>match r with| .done b=>pure b| .yield b=>f e2 b>>=fun r=>match r with| .done b=>pure b| .yield b=>pure b):=fun f=>by
  rw [←Array.forIn_toList]
  simp only [List.forIn_cons,List.forIn_nil]
  congr 1
  funext r
  cases r with
  |done=>rfl
  |yield=>
   dsimp only
   congr 1
   funext q
   cases q<;>rfl
 unfold Builtin.«str.maketrans»
 refine wpAny_bind (wpAny_of_eq (a:=()) rfl ?_)
 refine wpAny_bind (wpAny_of_eq (a:=()) (by first|rfl|kernel_rfl) ?_)
 refine wpAny_bind (wpAny_of_eq (a:=none) rfl ?_)
 refine wpAny_bind (wpAny_of_eq (a:=none) rfl ?_)
 unfold newDict
 refine wpAny_bind (wpAny_newObj_type ?_)
 dsimp only
 refine wpAny_bind (wpAny_holding ?_)
 refine wpAny_bind (wpAny_typeOf hd1.typeIs ?_)
 refine wpAny_bind (wpAny_of_eq (a:=()) rfl ?_)
 refine wpAny_bind (wpAny_typeOf hd1.typeIs ?_)
 refine KFB.if_not (by decide+kernel) ?_
 refine wpAny_bind ?_
 unfold notTheModulesDict
 refine KFB.if_not hs (wpAny_pure ?_)
 refine wpAny_bind (wpAny_dictEntries ho hdt ?_)
 refine wpAny_bind ?_
 rw [ef]
 refine wpAny_bind ?_
 rw [k1,v1]
 refine wpAny_bind (wpAny_of_eq (a:=some ⟨#[91]⟩) rfl ?_)
 dsimp only
 refine wpAny_bind (wpAny_mkInt ?_)
 refine wpAny_bind (wpAny_dictSet_pairs (k:=91) (by rfl) hm0 (fun h1 m1 s1=> ?_) (by simp))
 refine wpAny_pure ?_
 dsimp only
 refine wpAny_bind ?_
 rw [k2,v2]
 refine wpAny_bind (wpAny_of_eq (a:=some ⟨#[93]⟩) rfl ?_)
 dsimp only
 refine wpAny_bind (wpAny_mkInt ?_)
 refine wpAny_bind (wpAny_dictSet_pairs (k:=93) (by rfl) m1 (fun h2 m2 s2=> ?_) (by rw [sizeLine_eq];decide))
 refine wpAny_pure (wpAny_pure (wpAny_pure (wpAny_pure ?_)))
 refine h h2 4 (fun b o e=> ?_) m2
 have n1:b≠s.heap.objs.size:=fun q=>by rw [q,Heap.get?_none_of_le (Nat.le_refl _)]at e;cases e
 exact(s2.2 _ n1).trans ((s1.2 _ n1).trans (Heap.get?_push_of_some _ e))
end
end Mine
end
section
namespace Mine
open PySem.Builtin PySem.Builtin.Re PySem.W
theorem vY:isSubtype (.type "KeyError") (.type "LookupError")=pure true:=by rw [isSubtype_type];kernel_rfl
theorem mI {n:Nat} (h:n≤1000):Builtin.Str.tooLong n=false:=by
 unfold Builtin.Str.tooLong
 exact decide_eq_false (by rw [sizeLine_eq];omega)
theorem aAj {σ:Type} {M:Model} {A:Around} {E:Value→Shared→Prop} {f:Nat→σ→Sem (ForInStep σ)} (J:List Nat→σ→Shared→Prop)
  (step:∀c r st s (Q:ForInStep σ→Shared→Prop),J (c::r) st s→(∀st' s',J r st' s'→Q (.yield st') s')→wpAny M A (f c st) Q E s):
  ∀(l:List Nat) (st:σ) (s:Shared) (Q:σ→Shared→Prop),J l st s→(∀st' s',J [] st' s'→Q st' s')→wpAny M A (forIn l st f) Q E s
 |[],st,s,Q,j,k=>by rw [List.forIn_nil];exact wpAny_pure (k _ _ j)
 |c::l,st,s,Q,j,k=>by
  rw [List.forIn_cons]
  exact wpAny_bind (step c l st s _ j fun st' s' j'=>aAj J step l st' s' Q j' k)
section
variable {prog:Program} {w:World} {A:Around} {E:Value→Shared→Prop} {s:Shared} {a:Addr}
theorem aIv {c:Nat} {m:Int→Option Value} {Q:Builtin.Str.Mapped→Shared→Prop} (hA:A.handled=none) (hs:(a==sysModules)=false) (hm:s.heap.MapOf (PySem.intKind prog w) a m) (hc:m c=none)
  (h:∀h' k,(∀b o,s.heap.get? b=some o→h'.get? b=some o)→Q .keep {s with heap:=h',toks:=s.toks+k}):wpAny (model prog w) A (Builtin.Str.tableLookup (.ref a) c) Q E s:=by
 unfold Builtin.Str.tableLookup
 refine wpAny_bind (wpAny_attempt (wpAny_bind (wpAny_mkInt (wpAny_getItem_missing_of (s:={s with toks:=s.toks+1}) (k:=(c:Int)) (by simp [PySem.intKind,Value.isInt]) hs hA hm hc fun h' e ne=> ?_))))
 refine aF fun gq hgq=> ?_
 refine kK (ne.there) fun ob t e1 e2 zz=> ?_
 subst hgq
 refine wpAny_bind (wpAny_isInstance ⟨ob,e1,e2⟩ vY ?_)
 exact KFB.if_so rfl (wpAny_bind (wpAny_rule (wpAny_pure (h h' 2 ne.keeps))))
theorem aF6 {α β:Type} {M:Model} {A:Around} {E:Value→Shared→Prop} {s:Shared} {l:List α} {b:β} {f:α→β→Sem (ForInStep β)} {Q:β→Shared→Prop} (h:∀f',f'=f→wpAny M A (forIn l b f') Q E s):wpAny M A (forIn l b f) Q E s:=h f rfl
theorem aPp {x:Str} {t:Tok} {m:Int→Option Value} {P:Fin→Shared→Prop} (hA:A.handled=none) (hs:(a==sysModules)=false) (hm:s.heap.MapOf (PySem.intKind prog w) a m) (hx:∀c∈x.cps.toList,m (c:Nat)=none) (hf:x.cps.all (· <128)=false) (hz:x.length≤1000)
  (h:∀h' k,(∀b o,s.heap.get? b=some o→h'.get? b=some o)→∀tk,P (.done (.ret (.str x tk))) {s with heap:=h',toks:=s.toks+k}):wpAny (model prog w) A (Builtin.«str.translate» ⟨[.str x t,.ref a],[]⟩) P E s:=by
 unfold Builtin.«str.translate»
 refine wpAny_bind (wpAny_of_eq (a:=(.str x t,x,.ref a)) rfl ?_)
 dsimp only
 have h0:(x.length==0)=false:=by
  cases q:x.length==0 with
  |false=>rfl
  |true=>
   have:x.cps= #[]:=Array.eq_empty_of_size_eq_zero (beq_iff_eq.mp q)
   rw [this]at hf
   simp at hf
 refine KFB.if_not h0 ?_
 rw [hf]
 refine wpAny_bind ?_
 rw [←Array.forIn_toList]
 refine aF6 fun f' hf'=> ?_
 refine aAj (J:=fun r st s'=>st.2.2.1=false∧st.2.2.2.2=false∧(∃done,x.cps.toList=done++r∧st.1=(done.map fun c=>(⟨#[c]⟩:Str)).reverse∧st.2.1=done.length)∧∃h' k,(∀b o,s.heap.get? b=some o→h'.get? b=some o)∧s'={s with heap:=h',toks:=s.toks+k}) ?_ _ _ _ _ ⟨rfl,rfl,⟨[],rfl,rfl,rfl⟩,s.heap,0,fun zz zz e=>e,rfl⟩ ?_
 ·rintro c r ⟨pc,tot,fa,kn,ad⟩ s₁ Q ⟨rfl,rfl,⟨done,e1,e2,e3⟩,h₁,k₁,kp,rfl⟩ kk
  subst hf'
  dsimp only at e2 e3 kk⊢
  have hl:done.length≤1000:=by
   have:x.cps.toList.length≤1000:=by rw [Array.length_toList];exact hz
   rw [e1,List.length_append]at this
   omega
  refine KFB.if_not (by rw [e3];exact mI hl) ?_
  refine KFB.if_not rfl ?_
  refine KFB.if_not rfl ?_
  have hm1:h₁.MapOf (PySem.intKind prog w) a m:=by
   refine aF fun gq hgq=> ?_
   refine nX hm fun o es ep q1 q2=> ?_
   subst hgq
   exact⟨o,es,ep,kp _ _ q1,q2⟩
  refine wpAny_bind (aIv (s:={s with heap:=h₁,toks:=s.toks+k₁}) (m:=m) hA hs hm1 (hx c (by rw [e1];simp)) fun h₂ k₂ kp₂=> ?_)
  dsimp only
  refine wpAny_pure (kk _ _ ⟨rfl,rfl,⟨done++[c],by rw [e1];simp,by rw [e2];simp,by simp [e3]⟩,h₂,k₁+k₂,fun b o e=>kp₂ b o (kp b o e),by simp [Nat.add_assoc]⟩)
 ·rintro⟨pc,tot,fa,kn,ad⟩ s₁ ⟨_,_,⟨done,e1,e2,e3⟩,h₁,k₁,kp,rfl⟩
  dsimp only at e2 e3⊢
  rw [List.append_nil]at e1
  have hl:done.length≤1000:=by rw [←e1,Array.length_toList];exact hz
  refine KFB.if_not (by rw [e3];exact mI hl) ?_
  have ex:(⟨pc.reverse.foldl (fun acc p=>acc++p.cps) #[]⟩:Str)=x:=by
   have gen:∀(l:List Nat) (a:Array Nat),(l.map fun c=>(⟨#[c]⟩:Str)).foldl (fun acc p=>acc++p.cps) a=a++l.toArray:=by
    intro l
    induction l with
    |nil=>intro a;simp
    |cons c l ih=>intro a;rw [List.map_cons,List.foldl_cons,ih];apply Array.ext';simp
   rw [e2,List.reverse_reverse,gen,←e1]
   obtain⟨⟨l⟩⟩:=x
   simp
  rw [ex]
  unfold retStr
  refine wpAny_bind (wpAny_mkStr (s:={s with heap:=h₁,toks:=s.toks+k₁}) (wpAny_pure ?_) (by rw [sizeLine_eq];omega))
  exact h h₁ (k₁+1) kp _
end
end Mine
end
section
namespace Mine
open PySem.Builtin PySem.Builtin.Re PySem.W
theorem aLp:entryFor table "str.maketrans"=some Builtin.«str.maketrans»:=entryFor_of_tree (by kernel_rfl)
theorem aL4:plainId "str.maketrans"=true:=by decide+kernel
theorem aLy (a:Value):checkBuiltinCall "str.maketrans" ⟨[a],[]⟩=pure ():=by kernel_rfl
section
variable {M:Model} {A:Around} {E:Value→Shared→Prop} {s:Shared} {env:Env} {o e:Expr} {name:PySem.Str} {apos pos:Pos} {Q:Value→Shared→Prop}
theorem uR (hp:dG o=true) (hln:Nat.beq apos.endLine pos.line=true) (he:isStarred e=false)
  (h:wpAny M A (eval o env) (fun u s₁=>∀pl,wpAny M A (getMethod u name pl) (fun r s₂=>∃P:Heap→Prop,(∀h,P h→∃k,(k=Keeper.frame∨k=Keeper.machine∨k=Keeper.boundFrame)∧Looks M h (keeperOf r.1) k)∧
   wpAny M A (eval e env) (fun v s₃=>P s₃.heap∧wpAny M A (call r.1 (r.2++[v])) Q E s₃) E s₂) E s₁) E s):wpAny M A (eval (.Call (.Attribute o name apos) [e] [] pos) env) Q E s:=by
 rw [arm_eval_Call,hK hp]
 refine wpAny_bind (wpAny_mono h (fun u s₁ h₁=> ?_) fun zz zz z=>z)
 refine wpAny_bind (wpAny_standAt ?_)
 have pl:∀ps:Pos,backTo ps (starEach [e] env)=[(false,eval e env)]:=fun ps=>by rw [bU he];rfl
 have hf:methodCallForm 1 (backTo pos (starEach [e] env)) (backToKw pos (keywordEach [] env))=true:=by rw [pl];rfl
 unfold methodCall
 rw [show([e].length+([]:List Keyword).length)=1 from rfl,hf]
 have hpos:methodCallPos true o env apos pos=pure pos:=by
  unfold methodCallPos
  have:(apos.endLine==pos.line)=true:=by simpa using Nat.eq_of_beq_eq_true hln
  rw [this];rfl
 rw [hpos]
 refine wpAny_bind (wpAny_holding (wpAny_mono (h₁ _) (fun r s₂ h₂=> ?_) fun zz zz z=>z))
 obtain⟨f,first⟩:=r
 refine aH h₂ fun P hk h₂=> ?_
 show wpAny _ _ (callWith pos f first _ _) _ _ _
 rw [pl]
 refine callWith_of (P:=P) rfl hk ?_
 unfold evalArgs
 refine wpAny_bind ?_
 refine spliced_cons (wpAny_mono h₂ (fun v s₃ h₃=>wpAny_pure ?_) fun zz zz z=>z)
 exact wpAny_bind (wpAny_pure (wpAny_holding (wpAny_pure h₃)))
end
noncomputable def TrP (a:Addr) (o:Obj):Prop:=(a==sysModules)=false∧o.ExactDict∧∃es ep,o.data= .dict es ep∧(∀e∈es,∃k,Value.isInt k e.key=true∧e.hash=hashInt k)∧∀k:Int,k≠91→k≠93→findBy Value.isInt es k=none
structure Prog5 (K:Params→Frag):Prop extends Prog4 K where
 fk:∀P,findCls (K P) (.type "dict") (.type "type") (PySem.Str.ofString "fromkeys")=some (.get (.builtin "classmethod_descriptor.__get__") (.builtin "dict.fromkeys") .none (.type "dict"))
section
variable {K:Params→Frag} (hP:Prog5 K) {n:Nat} {sc:Scope} {st st₁:AS} {W:PySem.Str} {o e:Expr} {p1 p2 p3 p5 apos pos:Pos} {x:Cx}
include hP
theorem aAi (hk:sc.names.lookup ("dict":PySem.Str)=some .globalImplicit) (hln:Nat.beq p2.endLine p5.line=true) (he:isStarred e=false) (h:DoesE K n sc e st (.str ⟨#[91,93]⟩) st) (hx:x.Ok K n sc) {ρ:List OA} {s:Shared} {Q:Value→Shared→Prop} {E:Value→Shared→Prop} (R:Rel x.hb x.L x.fr ρ st s)
  (kk:∀s' ρ' d,Rel x.hb x.L x.fr ρ' st s'→Next x.L ρ s ρ' s'→(d==sysModules)=false→s'.heap.DictOf (PySem.strKind P0 x.w) d [(⟨#[91]⟩,.none),(⟨#[93]⟩,.none)]→Q (.ref d) s'):
  wpAny (mx x) x.A (eval (.Call (.Attribute (.Name "dict" p1) "fromkeys" p2) [e] [] p5) x.env) Q E s:=by
 refine uR rfl hln he ?_
 have ho:DoesE K n sc (.Name "dict" p1) st (.val (.type "dict")) st:=eQ hk (fun P=>(hP.tab.glb "dict" _ (by kernel_rfl) P).1) (by kernel_rfl)
 refine ho x hx ρ s _ _ R fun u s₁ ρ₁ R₁ N₁ d pl=> ?_
 cases d
 have X:=hx.glo.X.keeps R₁.base
 refine to1 (aNu X (hP.fk _) ?_)
 have k1:∀b o,s₁.heap.get? b=some o→(s₁.heap.push fJ).get? b=some o:=fun b o e=>Heap.get?_push_of_some _ e
 have R₂:=(R₁.grow k1).toks (t:=s₁.toks+1) (Nat.succ_pos _)
 have N₂:Next x.L ρ₁ s₁ ρ₁ {s₁ with heap:=s₁.heap.push fJ,toks:=s₁.toks+1}:=(Next.grow k1).toks _
 have hu:(s₁.heap.push fJ).get? s₁.heap.objs.size=some fJ:=Heap.get?_push_size _ rfl
 refine⟨fun h=>h.get? s₁.heap.objs.size=some fJ,fun h e=>⟨.machine,.inr (.inl rfl),(Looks.ld (part:=none) e).andThen .now⟩, ?_⟩
 refine h x hx ρ₁ _ _ _ R₂ fun v s₃ ρ₃ R₃ N₃ d=> ?_
 obtain⟨⟨t,rfl⟩,_⟩:=d
 have hu₃:s₃.heap.get? s₁.heap.objs.size=some fJ:=by
  have nn:s₁.heap.get? s₁.heap.objs.size=none:=Heap.get?_none_of_le (Nat.le_refl _)
  obtain⟨o',e1,kp⟩:=N₃.keep _ _ hu (fun q=>by obtain⟨oL,hL⟩:=R₁.at_L;rw [←q,nn]at hL;cases hL) (fun q=>by obtain⟨oL,hL⟩:=R₁.at_some _ q;rw [nn]at hL;cases hL)
  rw [kp.same fun es n q=>by cases q]at e1
  exact e1
 refine⟨hu₃,to1 (aO3 hx.handled hu₃ fun h' k kp hd=> ?_)⟩
 have R₄:=(R₃.grow kp).toks (t:=s₃.toks+k) (Nat.lt_of_lt_of_le R₃.tk (Nat.le_add_right _ _))
 refine kk _ ρ₃ _ R₄ ((N₁.trans N₂).trans (N₃.trans ((Next.grow kp).toks _))) ?_ hd
 have:sysModules<s₃.heap.objs.size:=by
  have X3:=hx.glo.X.keeps R₃.base
  have:=Heap.lt_size (X3 _ _ (hP.fu x.w.params))
  exact Nat.lt_trans (by decide) this
 cases q:s₃.heap.objs.size==sysModules with
 |false=>rfl
 |true=>
  rw [beq_iff_eq]at q
  rw [q]at this
  exact absurd this (Nat.lt_irrefl _)
theorem aCq (hk:sc.names.lookup ("dict":PySem.Str)=some .globalImplicit) (hp:dG o=true) (hln1:Nat.beq apos.endLine pos.line=true) (hln:Nat.beq p2.endLine p5.line=true) (he:isStarred e=false) (h0:DoesE K n sc o st (.str W) st) (h:DoesE K n sc e st (.str ⟨#[91,93]⟩) st):
  DoesE K n sc (.Call (.Attribute o "maketrans" apos) [.Call (.Attribute (.Name "dict" p1) "fromkeys" p2) [e] [] p5] [] pos) st (.obj st.objs.length) ⟨st.loc,st.objs++[.raw TrP]⟩:=by
 intro x hx ρ s Q E R kk
 refine uR hp hln1 rfl ?_
 refine h0 x hx ρ s _ _ R fun u s₁ ρ₁ R₁ N₁ d pl=> ?_
 obtain⟨⟨tk,rfl⟩,_⟩:=d
 refine to1 (aNt ?_)
 refine⟨fun zz=>True,fun h zz=>⟨.machine,.inr (.inl rfl),Looks.of_pure rfl⟩, ?_⟩
 have R₂:=R₁.toks (t:=s₁.toks+1) (Nat.succ_pos _)
 refine aAi hP hk hln he h hx R₂ fun s₃ ρ₃ d R₃ N₃ hs hd=>⟨trivial, ?_⟩
 have N₂:Next x.L ρ s ρ₁ {s₁ with toks:=s₁.toks+1}:=N₁.toks _
 refine wpAny_call (aH0 (codeAny_call_builtin aL4 aLp (wpAny_of_eq (aLy _) ?_)))
 refine aPq hs hd fun h' k kp hd'=> ?_
 have hbig:sysModules<s₃.heap.objs.size:=by
  have X3:=hx.glo.X.keeps R₃.base
  exact Nat.lt_trans (by decide) (Heap.lt_size (X3 _ _ (hP.fu x.w.params)))
 have hs':(s₃.heap.objs.size==sysModules)=false:=by
  cases q:s₃.heap.objs.size==sysModules with
  |false=>rfl
  |true=>
   rw [beq_iff_eq]at q
   rw [q]at hbig
   exact absurd hbig (Nat.lt_irrefl _)
 have hnew:∀a∈(⟨s₃.heap.objs.size,none⟩:OA).a::(⟨s₃.heap.objs.size,none⟩:OA).d.toList,s₃.heap.get? a=none:=by
  intro a ha
  rcases List.mem_cons.mp ha with rfl|ha
  ·exact Heap.get?_none_of_le (Nat.le_refl _)
  ·cases ha
 refine aF fun gq hgq=> ?_
 refine gP (hd'.mapOf) fun ob es ep g1 g2 g3 g4 g5=> ?_
 subst hgq
 have RT:=R₃.track (x:=⟨s₃.heap.objs.size,none⟩) (o:=.raw TrP) kp hnew (by simp) ⟨rfl,ob,g1,hs',g2,es,ep,g3,g4,fun k n1 n2=>(g5 k).trans (by simp [valueAt,Ne.symm n1,Ne.symm n2])⟩
 have NT:=Next.track (L:=x.L) (ρ:=ρ₃) (s:=s₃) (x:=⟨s₃.heap.objs.size,none⟩) kp hnew
 exact kk _ _ _ (RT.toks (t:=s₃.toks+k) (Nat.lt_of_lt_of_le R₃.tk (Nat.le_add_right _ _))) (N₂.trans (N₃.trans (NT.toks _))) (bV R₃ _)
end
end Mine
end
section
namespace Mine
section
variable {K:Params→Frag} {n k:Nat} {objs:List AO} {W:Str} {sc:Scope} {st st₁:AS}
theorem vI (ho:objs[k]?=some (.raw TrP)) (hW:(W.cps.toList.all fun c=> !(Nat.beq c 91)&& !(Nat.beq c 93))=true) (hf:W.cps.all (· <128)=false) (hz:W.length≤1000):DoesCall K n (.builtin "str.translate") [.str W,.obj k] [] objs (.str W) objs:=by
 intro x hx loc ρ vs kvs ha hk s Q E R kk
 refine aF fun gq hgq=> ?_
 cases hk
 cases ha with|cons d1 ha=>cases ha with|cons d2 ha=>
 cases ha
 obtain⟨⟨t,rfl⟩,hl⟩:=d1
 refine aH d2 fun y hy q2_=> ?_;subst q2_
 obtain⟨y',hy',hd,o,e,hs,hex,es,ep,hdata,hkeys,hmiss⟩:=R.objs _ _ ho
 rw [hy]at hy'
 obtain rfl:=Option.some.inj hy'
 subst hgq
 have hm:s.heap.MapOf (PySem.intKind P0 x.w) y.a (fun k=>findBy Value.isInt es k):=⟨o,es,ep,e,hex,hdata,hkeys,fun zz=>rfl⟩
 refine to1 (wpAny_call_entry F.slot_str_translate (typeIs_str _ _ _) F.entry_str_translate ?_ (F.args_str_translate_2 _ _))
 refine aPp (m:=fun k=>findBy Value.isInt es k) hx.handled hs hm (fun c hc=> ?_) hf hz fun h' k' kp tk=>⟨_,rfl, ?_⟩
 ·have:=List.all_eq_true.mp hW c hc
  simp only [Bool.and_eq_true,Bool.not_eq_true']at this
  have n1:c≠91:=fun q=>by rw [q]at this;cases this.1
  have n2:c≠93:=fun q=>by rw [q]at this;cases this.2
  exact hmiss _ (by lia) (by lia)
 ·exact kk _ _ ρ ((R.grow kp).toks (t:=s.toks+k') (Nat.lt_of_lt_of_le R.tk (Nat.le_add_right _ _))) ((Next.grow kp).toks _) ⟨⟨tk,rfl⟩,hl⟩
theorem aA2 {l:Expr} {k:Nat} {p pos:Pos} {y:Str} (h:DoesE K n sc l st (.str y) st₁):cW K n sc (.Compare l [.Is] [.Constant (.bool true) k p] pos) st false st₁:=by
 intro x hx ρ
 rw [arm_isTrue_Compare]
 refine(h x hx ρ).bind fun ρ₁ v ex hv=> ?_
 obtain⟨⟨t,rfl⟩,_⟩:=hv
 have em:markedEach [.Is] [.Constant (.bool true) k p] (evalEach [.Constant (.bool true) k p] x.env)=[eval (.Constant (.bool true) k p) x.env]:=rfl
 rw [em]
 show Tri x ρ₁ st₁ (do let rv←holding [.str y t] (eval (.Constant (.bool true) k p) x.env);standAt pos;let c←operate [.str y t,rv] (compareOp .Is (.str y t) rv);holding [c] (truthy c)) _ _
 refine Tri.bind (Tri.holding (iT (a:=.bool true) rfl)) fun ρ₂ u ex2 hu=> ?_
 cases hu
 refine Tri.standAt (Tri.bind (st₁:=st₁) (p:=fun zz q=>q= .bool false) (Tri.operate ?_) fun ρ₃ q ex3 hq=>Tri.holding ?_)
 ·intro s Q E R kk
  show wpAny _ _ (isSame (.str y t) (.bool true)>>=fun q=>pure (Value.bool q)) _ _ _
  exact wpAny_bind (wpAny_of_eq (a:=false) rfl (wpAny_pure (kk _ s ρ₂ R (.refl ..) rfl)))
 ·subst hq
  exact bA fun s Q E k=>wpAny_truthy_bool (k _ s.toks rfl)
end
end Mine
end
section
set_option maxHeartbeats 1000000
namespace Mine
noncomputable def dM:Str:=wordsA++gQ++aK0
noncomputable abbrev aFa:Stmt→Expr:=stE
noncomputable abbrev aRu:Stmt→List Stmt:=orW
noncomputable def aLs:Expr:=aFa (aC (aRu (aC aOz 19)) 0)
noncomputable def aQc:Expr:=aFa (aC (aO (aC aOz 21)) 2)
noncomputable def tM (more:List (Str×AV)):AO:=.inst 732 (([("instream",.obj 1),("infile",.none),("posix",.bool true),("eof",.none),("commenters",.str "#"),("wordchars",.str (wordsA++gQ)),("whitespace",.str " \t\r\n"),("whitespace_split",.bool false),
 ("quotes",.str "'\""),("escape",.str "\\"),("escapedquotes",.str "\""),("state",.str " "),("pushback",.obj 2),("lineno",.int 1),("debug",.int 0),("token",.str ""),("filestack",.obj 3),("source",.none)]:List (Str×AV))++more)
noncomputable def uC:List (Str×AV):=[("self",.obj 0),("instream",.obj 1),("infile",.none),("posix",.bool true),("punctuation_chars",.str "[]")]
section
variable {K:Params→Frag} (hP:Prog5 K) {n:Nat} {l:List Nat} {objs:List AO} {io:AO} {rest:List AO}
include hP
theorem aJh:DoesE K n scI aQc ⟨uC,kI "#" dM "[]" [("_pushback_chars",.obj 4)] false::rest⟩ (.obj (rest.length+1)) ⟨uC,kI "#" dM "[]" [("_pushback_chars",.obj 4)] false::rest++[.raw TrP]⟩:=by
 have e:∃q1 q2 q3 apos p1 p2 p5 pos,aQc= .Call (.Attribute (.Attribute (.Name "self" q1) "wordchars" q2) "maketrans" apos) [.Call (.Attribute (.Name "dict" p1) "fromkeys" p2) [.Name "punctuation_chars" q3] [] p5] [] pos∧Nat.beq apos.endLine pos.line=true∧Nat.beq p2.endLine p5.line=true:=⟨_,_,_,_,_,_,_,_,rfl,by kernel_rfl,by kernel_rfl⟩
 refine aF fun gq hgq=> ?_
 obtain⟨q1,q2,q3,apos,p1,p2,p5,pos,e,e1,e2⟩:=e
 subst hgq
 rw [e]
 exact aCq hP (W:=dM) (by rw [aN];kernel_rfl) rfl e1 e2 rfl (aI (m:=6) (td:=[]) (obs:=[]) hP.tab (by kernel_rfl) all_nil) (aI (m:=6) (td:=[]) (obs:=[]) hP.tab (by kernel_rfl) all_nil)
theorem aFb:cW K n scI aLs ⟨uC,objs⟩ false ⟨uC,objs⟩:=by
 have e:∃q1 k q2 pos,aLs= .Compare (.Name "punctuation_chars" q1) [.Is] [.Constant (.bool true) k q2] pos:=⟨_,_,_,_,rfl⟩
 refine aF fun gq hgq=> ?_
 refine aJv e fun q1 k q2 pos e=> ?_
 subst hgq
 rw [e]
 exact aA2 (y:="[]") (aI (m:=6) (td:=[]) (obs:=[]) hP.tab (by kernel_rfl) all_nil)
theorem aFh:DoesCode K (n+5) (.ref 656) [.obj 0,S l] [("posix",.bool true),("punctuation_chars",.str "[]")] [.inst 732 []] .none [kI "#" dM "[]" [("_pushback_chars",.obj 4)] false,ioO (mkS l) 0,.deq [],.deq [],.deq [],.raw TrP]:=by
 refine lZ hP.f656.fn (loc:=[("self",.obj 0),("instream",S l),("infile",.none),("posix",.bool true),("punctuation_chars",.str "[]")]) (fun P ρ vs kvs ha hk=> ?_) (by kernel_rfl) (bI (by kernel_rfl)) (fl:=.next) (loc':=uC++([("t",.obj 5)]:List (Str×AV))) ?_ rfl
 ·cases ha with|cons d ha=>cases ha with|cons d2 ha=>
  refine aF fun gq hgq=> ?_
  cases ha
  cases hk with| @cons _ kv _ _ d3 hk=>
  cases hk with| @cons _ kv2 _ _ d4 hk=>
  cases hk
  obtain⟨kn,kv⟩:=kv
  obtain⟨kn2,kv2⟩:=kv2
  refine cK d3 fun q0_ d3=> ?_;subst q0_
  refine cK d4 fun q0_ d4=> ?_;subst q0_
  subst hgq
  exact⟨_,fun s X=>(hP.b656' _ _ _ _).to P s X,.cons ⟨rfl,d⟩ (.cons ⟨rfl,d2⟩ (.cons ⟨rfl,rfl⟩ (.cons ⟨rfl,d3⟩ (.cons ⟨rfl,d4⟩ .nil))))⟩
 ·exact aB (m:=20) (k:=20) (td:=[.c (.bool true) [.inst 732 []],.c (.obj 1) [.inst 732 [],ioO (mkS l) 0],.c (.obj 2) [qU,ioO (mkS l) 0,.deq []],.c (.obj 3) [qT,ioO (mkS l) 0,.deq [],.deq []],
    .e (.bool false) ⟨uC,[tM [],ioO (mkS l) 0,.deq [],.deq []]⟩,.c (.obj 4) [tM [("_punctuation_chars",.str "[]")],ioO (mkS l) 0,.deq [],.deq [],.deq []],
    .e (.obj 5) ⟨uC,[kI "#" dM "[]" [("_pushback_chars",.obj 4)] false,ioO (mkS l) 0,.deq [],.deq [],.deq [],.raw TrP]⟩,
    .c (.str dM) [kI "#" dM "[]" [("_pushback_chars",.obj 4)] false,ioO (mkS l) 0,.deq [],.deq [],.deq [],.raw TrP]])
   (obs:=[DoesCall K (n+4) (.builtin "isinstance") [S l,.val (.type "str")] [] [.inst 732 []] (.bool true) [.inst 732 []],
    DoesCall K (n+4) (.ref 597) [S l] [] [.inst 732 []] (.obj 1) [.inst 732 [],ioO (mkS l) 0],
    DoesCall K (n+4) (.type "collections.deque") [] [] [qU,ioO (mkS l) 0] (.obj 2) [qU,ioO (mkS l) 0,.deq []],
    DoesCall K (n+4) (.type "collections.deque") [] [] [qT,ioO (mkS l) 0,.deq []] (.obj 3) [qT,ioO (mkS l) 0,.deq [],.deq []],
    cW K (n+4) scI aLs ⟨uC,[tM [],ioO (mkS l) 0,.deq [],.deq []]⟩ false ⟨uC,[tM [],ioO (mkS l) 0,.deq [],.deq []]⟩,
    DoesCall K (n+4) (.type "collections.deque") [] [] [tM [("_punctuation_chars",.str "[]")],ioO (mkS l) 0,.deq [],.deq []] (.obj 4) [tM [("_punctuation_chars",.str "[]")],ioO (mkS l) 0,.deq [],.deq [],.deq []],
    DoesE K (n+4) scI aQc ⟨uC,[kI "#" dM "[]" [("_pushback_chars",.obj 4)] false,ioO (mkS l) 0,.deq [],.deq [],.deq []]⟩ (.obj 5) ⟨uC,[kI "#" dM "[]" [("_pushback_chars",.obj 4)] false,ioO (mkS l) 0,.deq [],.deq [],.deq [],.raw TrP]⟩,
    DoesCall K (n+4) (.builtin "str.translate") [.str dM,.obj 5] [] [kI "#" dM "[]" [("_pushback_chars",.obj 4)] false,ioO (mkS l) 0,.deq [],.deq [],.deq [],.raw TrP] (.str dM) [kI "#" dM "[]" [("_pushback_chars",.obj 4)] false,ioO (mkS l) 0,.deq [],.deq [],.deq [],.raw TrP]]) hP.tab (by kernel_rfl)
   (aA (gD rfl) (aA (aH1 hP.toProg3) (aA (hI (objs:=[qU,ioO (mkS l) 0])) (aA (hI (objs:=[qT,ioO (mkS l) 0,.deq []]))
    (aA (aFb hP) (aA (hI (objs:=[tM [("_punctuation_chars",.str "[]")],ioO (mkS l) 0,.deq [],.deq []])) (aA (aJh hP (rest:=[ioO (mkS l) 0,.deq [],.deq [],.deq []])) (aA (vI rfl (by kernel_rfl) (by kernel_rfl) (by decide)) all_nil))))))))
theorem aJn:DoesCall K (n+6) (.ref 732) [S l] [("posix",.bool true),("punctuation_chars",.str "[]")] [] (.obj 0) [kI "#" dM "[]" [("_pushback_chars",.obj 4)] false,ioO (mkS l) 0,.deq [],.deq [],.deq [],.raw TrP]:=
 vK hP.m732 hP.i732 hP.t656 (objs:=[]) (aFh hP)
end
end Mine
end
section
namespace Mine
inductive Toks (run:List Nat→Option (Option (List Nat)×Bool×List Nat)):List Nat→List (List Nat)→Prop
 |nil {r r'}:run r=some (none,true,r')→Toks run r []
 |last {r tk}:run r=some (some tk,true,[])→Toks run r [tk]
 |cons {r r' tk ts}:run r=some (some tk,false,r')→r'.length≤r.length→Toks run r' ts→Toks run r (tk::ts)
noncomputable abbrev mX:List Nat→List (List Nat)→Prop:=Toks (bW .sp [] false)
noncomputable abbrev cX:List Nat→List (List Nat)→Prop:=Toks (bT .sp [] false)
theorem aLh {l:Str} {p:Nat} (h:l.cps.toList.drop p=[]):l.length≤p:=kX h
section
variable {K:Params→Frag} (hP:Prog5 K) {n:Nat} {l:Str}
include hP
theorem aPs {r:List Nat} {ts:List (List Nat)} (h:mX r ts):∀{p:Nat} {ln:Int} {xs:List AV},l.cps.toList.drop p=r→r.length≤sizeLine→xs.length+ts.length≤sizeLine→
  ∃(S':AV) (ln':Int) (p':Nat),Pulls K (n+5) 0 4 [aG (.str " ") (.str "") (.isym ln),ioO l p,.deq [],.deq [],.list xs] [aG S' (.str "") (.isym ln'),ioO l p',.deq [],.deq [],.list (xs++ts.map S)]:=by
 induction h with
 | @nil r r' e=>
  intro p ln xs hd hz hx
  refine fL (aQ6 hP.toProg (n:=n) (rest:=[.list xs]) (ln:=ln) hd hz e) fun ln' p' h1 h2=> ?_
  exact⟨_,ln',p',.done (by rw [List.map_nil,List.append_nil];exact qX hP.it rfl (lI hP.toProg4 h2))⟩
 | @last r tk e=>
  intro p ln xs hd hz hx
  refine fL (aQ6 hP.toProg (n:=n) (rest:=[.list xs]) (ln:=ln) hd hz e) fun ln' p' h1 h2=> ?_
  refine⟨.none,ln',p',.one (qW hP.it rfl (lH hP.toProg4 h2)) rfl (by simp at hx;lia) ?_⟩
  exact .done (qX hP.it rfl (lI hP.toProg4 (aJ7 hP.toProg (rest:=[.list (xs++[S tk])]) (ln:=ln') (aLh h1))))
 | @cons r r' tk ts e hle _ ih=>
  intro p ln xs hd hz hx
  refine aF fun gq hgq=> ?_
  refine fL (aQ6 hP.toProg (n:=n) (rest:=[.list xs]) (ln:=ln) hd hz e) fun ln' p' h1 h2=> ?_
  obtain⟨S',ln'',p'',h3⟩:=ih (ln:=ln') (xs:=xs++[S tk]) h1 (Nat.le_trans hle hz) (by simp at hx⊢;lia)
  subst hgq
  refine⟨S',ln'',p'',.one (qW hP.it rfl (lH hP.toProg4 h2)) rfl (by simp at hx;lia) ?_⟩
  have e2:xs++(tk::ts).map S=xs++[S tk]++ts.map S:=by simp
  rw [e2]
  exact h3
theorem aC9 {com words punct:Str} {more:List (Str×AV)} {S T L L':AV} (hL:AVle L L'):AOle (aCa com words punct more S T L) (aCa com words punct more S T L'):=by
 refine qH ?_
 exact .cons ⟨rfl,.refl _⟩ (.cons ⟨rfl,.refl _⟩ (.cons ⟨rfl,.refl _⟩ (.cons ⟨rfl,.refl _⟩ (.cons ⟨rfl,.refl _⟩ (.cons ⟨rfl,.refl _⟩ (.cons ⟨rfl,.refl _⟩ (.cons ⟨rfl,.refl _⟩ (.cons ⟨rfl,.refl _⟩ (.cons ⟨rfl,.refl _⟩ (.cons ⟨rfl,.refl _⟩ (.cons ⟨rfl,.refl _⟩ (.cons ⟨rfl,.refl _⟩ (.cons ⟨rfl,hL⟩ (FLe.refl _))))))))))))))
theorem aFm {l:List Nat} {ts:List (List Nat)} (h:mX l ts) (hz:l.length≤sizeLine) (ht:ts.length≤sizeLine):∃objs',objs'[4]?=some (.list (ts.map S))∧DoesCall K (n+9) (.ref 744) [S l] [] [] (.obj 4) objs':=by
 refine aH9 (aPs hP (n:=n) (l:=mkS l) (p:=0) (ln:=1) (xs:=[]) h (by rw [List.drop_zero,aBz]) hz (by simpa using ht)) fun S' ln' p' hp=> ?_
 refine⟨[aG S' (.str "") (.isym ln'),ioO (mkS l) p',.deq [],.deq [],.list (ts.map S)],rfl,bZ hP.f744.fn (loc:=[("s",S l),("comments",.bool false),("posix",.bool true)]) (fun P ρ vs kvs ha hk=>by
  refine aF fun gq hgq=> ?_
  cases hk
  cases ha with|cons d ha=>
  cases ha
  subst hgq
  exact⟨_,fun s X=>(hP.b744 _).to P s X,.cons ⟨rfl,d⟩ (.cons ⟨rfl,rfl⟩ (.cons ⟨rfl,rfl⟩ .nil))⟩) (by kernel_rfl) (bI (by kernel_rfl)) (fl:=.ret (.obj 4)) (loc':=[("s",S l),("comments",.bool false),("posix",.bool true),("lex",.obj 0)])
  (aB (m:=20) (k:=20) (td:=[.c (.obj 0) [kI "#" (wordsA++gQ) "" [] false,ioO (mkS l) 0,.deq [],.deq []],.c (.obj 4) [aG S' (.str "") (.isym ln'),ioO (mkS l) p',.deq [],.deq [],.list (ts.map S)]])
   (obs:=[DoesCall K (n+8) (.ref 732) [S l] [("posix",.bool true)] [] (.obj 0) [kI "#" (wordsA++gQ) "" [] false,ioO (mkS l) 0,.deq [],.deq []],
    DoesCall K (n+8) (.type "list") [.obj 0] [] [kI "" (wordsA++gQ) "" [] true,ioO (mkS l) 0,.deq [],.deq []] (.obj 4) [aG S' (.str "") (.isym ln'),ioO (mkS l) p',.deq [],.deq [],.list (ts.map S)]]) hP.tab (by kernel_rfl)
   (aA ((aJo hP.toProg3 (n:=n)).le (by lia)) (aA ?_ all_nil))) rfl⟩
 ·refine DoesCall.pre (args':=[.obj 0]) (objs₁:=[aG (.str " ") (.str "") (.isym 1),ioO (mkS l) (0:Nat),.deq [],.deq []]) ?_ (bG AVle.refl _) (.cons (aC9 hP vN) (bG AOle.refl _))
  exact aFp hP.it rfl (aJl hP.toProg4) hp
end
end Mine
end
section
set_option maxHeartbeats 1000000
namespace Mine
noncomputable def aEi:Scope:=bC (aC aR 31)
noncomputable def fZ:List Stmt:=aO (aC aR 31)
noncomputable def whT:Expr:=stE (aC fZ 3)
noncomputable def whB:List Stmt:=aO (aC fZ 3)
noncomputable def uB (l:List Nat) (v:AV):List (Str×AV):=[("line",S l),("lexer",.obj 0),("token",v),("tokens",.obj 6)]
noncomputable def obB (X T:AV) (L:Int) (l:Str) (p:Nat) (dq xs:List AV) (more:List AO):List AO:=aE X T (.isym L)::ioO l p:: .deq []:: .deq []:: .deq dq:: .raw TrP:: .list xs::more
section
variable {K:Params→Frag} (hP:Prog5 K) {n:Nat} {l:Str} {ll:List Nat}
include hP
theorem aFx {X X':AV} {L L':Int} {p p':Nat} {dq dq' xs:List AV} {more:List AO} {tk:List Nat} {v:Option (List Nat)} (hz:xs.length≤sizeLine)
  (h:DoesCall K n (.ref 693) [.obj 0] [] (obB X (.str "") L l p dq (xs++[S tk]) more) (dK v) (obB X' (.str "") L' l p' dq' (xs++[S tk]) more)):
  DoesB K n aEi whB ⟨uB ll (S tk),obB X (.str "") L l p dq xs more⟩ .next ⟨uB ll (dK v),obB X' (.str "") L' l p' dq' (xs++[S tk]) more⟩:=
 aB (m:=20) (k:=20) (td:=[.c .none (obB X (.str "") L l p dq (xs++[S tk]) more),.c (dK v) (obB X' (.str "") L' l p' dq' (xs++[S tk]) more)])
  (obs:=[DoesCall K n (.builtin "list.append") [.obj 6,S tk] [] (obB X (.str "") L l p dq xs more) .none (obB X (.str "") L l p dq (xs++[S tk]) more),
   DoesCall K n (.ref 693) [.obj 0] [] (obB X (.str "") L l p dq (xs++[S tk]) more) (dK v) (obB X' (.str "") L' l p' dq' (xs++[S tk]) more)]) hP.tab (by kernel_rfl)
  (aA (dV (objs:=obB X (.str "") L l p dq xs more) (k:=6) rfl hz) (aA h all_nil))
theorem aG0 {X T:AV} {L:Int} {p:Nat} {dq xs:List AV} {more:List AO} {tk:List Nat}:cW K n aEi whT ⟨uB ll (S tk),obB X T L l p dq xs more⟩ true ⟨uB ll (S tk),obB X T L l p dq xs more⟩:=
 eO (m:=20) (td:=[]) (obs:=[]) hP.tab (by kernel_rfl) all_nil
theorem aAu {X T:AV} {L:Int} {p:Nat} {dq xs:List AV} {more:List AO}:cW K n aEi whT ⟨uB ll .none,obB X T L l p dq xs more⟩ false ⟨uB ll .none,obB X T L l p dq xs more⟩:=
 eO (m:=20) (td:=[]) (obs:=[]) hP.tab (by kernel_rfl) all_nil
theorem aNn {r:List Nat} {ts:List (List Nat)} (h:cX r ts):∀{p:Nat} {L:Int} {dq xs:List AV} (more:List AO),Src l r p dq→r.length≤sizeLine→xs.length+ts.length≤sizeLine→
  ∃(v:Option (List Nat)) (X':AV) (L':Int) (p':Nat) (dq':List AV),DoesCall K (n+4) (.ref 693) [.obj 0] [] (obB (.str " ") (.str "") L l p dq xs more) (dK v) (obB X' (.str "") L' l p' dq' xs more)∧
   ∀more',∃a X'' L'' p'' dq'',DoesW K (n+4) aEi whT whB [] ⟨uB ll (dK v),obB X' (.str "") L' l p' dq' xs more'⟩ .next ⟨uB ll a,obB X'' (.str "") L'' l p'' dq'' (xs++ts.map S) more'⟩:=by
 induction h with
 | @nil r r' e=>
  intro p L dq xs more hs hz hx
  refine aF fun gq hgq=> ?_
  refine nX (aQ5 hP.toProg (n:=n) (rest:=.raw TrP:: .list xs::more) (ln:=L) hs hz e) fun ln' p' dq' h1 h2=> ?_
  subst hgq
  refine⟨none,.none,ln',p',dq',h2,fun more'=>⟨.none,.none,ln',p',dq', ?_⟩⟩
  rw [List.map_nil,List.append_nil]
  exact lW (aAu hP) cM
 | @last r tk e=>
  intro p L dq xs more hs hz hx
  refine aF fun gq hgq=> ?_
  refine nX (aQ5 hP.toProg (n:=n) (rest:=.raw TrP:: .list xs::more) (ln:=L) hs hz e) fun ln' p' dq' h1 h2=> ?_
  subst hgq
  refine⟨some tk,.none,ln',p',dq',h2,fun more'=>⟨.none,.none,ln',p',dq', ?_⟩⟩
  refine nL (aG0 hP) (aFx hP (v:=none) (by simp at hx;lia) ?_) rfl (lW (aAu hP) cM)
  exact aJ6 hP.toProg (rest:=.raw TrP:: .list (xs++[S tk])::more') h1
 | @cons r r' tk ts e hle _ ih=>
  intro p L dq xs more hs hz hx
  refine aF fun gq hgq=> ?_
  refine nX (aQ5 hP.toProg (n:=n) (rest:=.raw TrP:: .list xs::more) (ln:=L) hs hz e) fun ln' p' dq' h1 h2=> ?_
  subst hgq
  refine⟨some tk,.str " ",ln',p',dq',h2,fun more'=> ?_⟩
  refine aF fun gq hgq=> ?_
  obtain⟨v,X2,L2,p2,dq2,h3,h4⟩:=ih (L:=ln') (xs:=xs++[S tk]) more' h1 (Nat.le_trans hle hz) (by simp at hx⊢;lia)
  refine vV (h4 more') fun a X3 L3 p3 dq3 h5=> ?_
  subst hgq
  refine⟨a,X3,L3,p3,dq3, ?_⟩
  have e2:xs++(tk::ts).map S=xs++[S tk]++ts.map S:=by simp
  rw [e2]
  exact nL (aG0 hP) (aFx hP (v:=v) (by simp at hx;lia) h3) rfl h5
theorem aJm {l:List Nat} {ts:List (List Nat)} (h:cX l ts) (hz:l.length≤sizeLine) (ht:ts.length≤sizeLine):∃objs',objs'[6]?=some (.list (ts.map S))∧DoesCall K (n+7) (.ref 785) [S l] [] [] (.obj 6) objs':=by
 refine aF fun gq hgq=> ?_
 refine aJu (aNn hP (n:=n+2) (l:=mkS l) (ll:=l) h (p:=0) (L:=1) (dq:=[]) (xs:=[]) [] (.inl ⟨rfl,by rw [List.drop_zero,aBz]⟩) hz (by simpa using ht)) fun v X L p dq h1 h2=> ?_
 refine vV (h2 [.tup [.obj 6,dK v]]) fun a X' L' p' dq' h3=> ?_
 rw [List.nil_append]at h3
 subst hgq
 refine⟨obB X' (.str "") L' (mkS l) p' dq' (ts.map S) [.tup [.obj 6,dK v]],rfl,bZ hP.f785.fn (hb1 hP.b785) (by kernel_rfl) (bI (by kernel_rfl)) (fl:=.ret (.obj 6)) (loc':=uB l a) ?_ rfl⟩
 have q:aO (aC aR 31)=[aC fZ 0,aC fZ 1]++(aC fZ 2::aC fZ 3::[aC fZ 4]):=by kernel_rfl
 rw [q]
 have s0:DoesB K (n+6) aEi [aC fZ 0,aC fZ 1] ⟨[("line",S l)],[]⟩ .next ⟨[("line",S l),("lexer",.obj 0)],[kI "#" dM "[]" [("_pushback_chars",.obj 4)] true,ioO (mkS l) 0,.deq [],.deq [],.deq [],.raw TrP]⟩:=
  aB (m:=20) (k:=20) (td:=[.c (.obj 0) [kI "#" dM "[]" [("_pushback_chars",.obj 4)] false,ioO (mkS l) 0,.deq [],.deq [],.deq [],.raw TrP]])
   (obs:=[DoesCall K (n+6) (.ref 732) [S l] [("posix",.bool true),("punctuation_chars",.str "[]")] [] (.obj 0) [kI "#" dM "[]" [("_pushback_chars",.obj 4)] false,ioO (mkS l) 0,.deq [],.deq [],.deq [],.raw TrP]]) hP.tab (by kernel_rfl) (aA (aJn hP) all_nil)
 have s0':=s0.post (st₂:=⟨[("line",S l),("lexer",.obj 0)],[aE (.str " ") (.str "") (.isym 1),ioO (mkS l) (0:Nat),.deq [],.deq [],.deq [],.raw TrP]⟩) ⟨FLe.refl _,.cons (aC9 hP vN) (bG AOle.refl _)⟩
 refine bP s0' (bD (st₁:=⟨uB l (dK v),obB X (.str "") L (mkS l) p dq [] [.tup [.obj 6,dK v]]⟩) ?_ (bD (st₁:=⟨uB l a,obB X' (.str "") L' (mkS l) p' dq' (ts.map S) [.tup [.obj 6,dK v]]⟩) ?_ ?_))
 ·have e:∃p1 p2 k p e pos,aC fZ 2= .Assign [.Tuple (dA [("tokens",p1),("token",p2)]) k p] e pos∧dY e=false∧swappedStores [.Tuple (dA [("tokens",p1),("token",p2)]) k p] e {(default:Env)with scope:=aEi}=(pure (some [("tokens":Str),("token":Str)]):Sem (Option (List Str)))∧e=aFa (aC fZ 2):=⟨_,_,_,_,_,_,rfl,by rfl,by kernel_rfl,rfl⟩
  refine aF fun gq hgq=> ?_
  refine aMg e fun p1 p2 k q e pos he hc hw ee=> ?_
  subst hgq
  rw [he]
  have hE:DoesE K (n+6) aEi e ⟨[("line",S l),("lexer",.obj 0)],[aE (.str " ") (.str "") (.isym 1),ioO (mkS l) (0:Nat),.deq [],.deq [],.deq [],.raw TrP]⟩ (.obj 7) ⟨[("line",S l),("lexer",.obj 0)],obB X (.str "") L (mkS l) p dq [] [.tup [.obj 6,dK v]]⟩:=by
   rw [ee]
   exact aI (m:=20) (td:=[.c (dK v) (obB X (.str "") L (mkS l) p dq [] [])]) (obs:=[DoesCall K (n+6) (.ref 693) [.obj 0] [] (obB (.str " ") (.str "") 1 (mkS l) 0 [] [] []) (dK v) (obB X (.str "") L (mkS l) p dq [] [])]) hP.tab (by kernel_rfl) (aA h1 all_nil)
  exact iQ (ts:=[("tokens",p1),("token",p2)]) (xs:=[.obj 6,dK v]) (pos:=pos) hc hE rfl rfl (by kernel_rfl) hw
 ·have e:∃q,aC fZ 3= .While whT whB [] q:=⟨_,rfl⟩
  refine cB e fun q e=> ?_
  rw [e]
  exact eI h3
 ·exact aB (m:=20) (k:=20) (td:=[]) (obs:=[]) hP.tab (by kernel_rfl) all_nil
end
end Mine
end
section
namespace Mine
section
variable {K:Params→Frag} {n i j:Nat} {sc:Scope} {st st₁ st₂:AS} {ts:List (List Nat)} {x:Cx} {ρ:List OA}
theorem aFf {vs:List Value}:∀{ts:List (List Nat)} {vs:List Value},All2 (den ρ) (ts.map S) vs→∀k (h:k<vs.length),∃l t,ts[k]?=some l∧vs[k]= .str (mkS l) t
 |[],_,h,k,hk=>by cases h;cases hk
 |a::r,_,h,k,hk=>by
  cases h with
  |cons d h=>
   cases k with
   |zero=>obtain⟨⟨t,rfl⟩,_⟩:=d;exact⟨a,t,rfl,rfl⟩
   |succ k=>exact aFf (vs:=[]) h k (by simpa using hk)
theorem uD {s:Shared} {a b:Value} {A:Around} (R:Rel x.hb x.L x.fr ρ st s) (hi:st.objs[i]?=some (.list (ts.map S))) (hj:st.objs[j]?=some (.list (ts.map S))) (da:den ρ (.obj i) a) (db:den ρ (.obj j) b):
  ∃(la lb:Addr) (us vs:Array Value),a= .ref la∧b= .ref lb∧s.heap.IsList la us∧s.heap.IsList lb vs∧us.size=vs.size∧∀j (h1:j<us.size) (h2:j<vs.size),SeqAt.EqAt A s us[j] vs[j] true:=by
 refine aF fun gq hgq=> ?_
 refine gP (R.lst hi da) fun ya us ma hya q4_ hda ha hua=> ?_;subst q4_
 refine gP (R.lst hj db) fun yb vs mb hyb q4_ hdb hb hub=> ?_;subst q4_
 subst hgq
 refine⟨ya.a,yb.a,us.toArray,vs.toArray,rfl,rfl,⟨_,ha,rfl,_,rfl⟩,⟨_,hb,rfl,_,rfl⟩,by simp [←hua.length,←hub.length],fun k h1 h2 prog w E Q q=> ?_⟩
 refine aF fun gq hgq=> ?_
 refine fL (aFf (vs:=[]) hua k (by simpa using h1)) fun l1 t1 e1 e2=> ?_
 refine fL (aFf (vs:=[]) hub k (by simpa using h2)) fun l2 t2 e3 e4=> ?_
 rw [e1]at e3
 obtain rfl:=Option.some.inj e3
 subst hgq
 simp only [List.getElem_toArray,e2,e4]
 exact wpAny_eqBool_str (by rw [decide_eq_true rfl];exact q)
theorem yO (k:Nat):((List.range k).all fun zz=>true)=true:=List.all_eq_true.mpr fun zz zz=>rfl
theorem yW {a b:Value} (hx:x.Run K n) (hi:st.objs[i]?=some (.list (ts.map S))) (hj:st.objs[j]?=some (.list (ts.map S))) (da:den ρ (.obj i) a) (db:den ρ (.obj j) b):Tri x ρ st (compareOp .NotEq a b) st fun zz r=>r= .bool false:=by
 intro s Q E R kk
 refine aF fun gq hgq=> ?_
 refine nW (uD (A:=x.A.in1) R hi hj da db) fun la lb us vs q4_ q5_ h1 h2 h3 h4=> ?_;subst q4_;subst q5_
 subst hgq
 have:=SeqAt.RcNeAt.lists (A:=x.A) (s:=s) (e:=fun zz=>true) h1 h2 h3 (by have:=hx.bud.2;omega) h4 P0 x.w E Q
 rw [yO]at this
 exact to1 (this (kk _ s ρ R (.refl ..) rfl))
theorem yX {a b:Value} (hx:x.Run K n) (hi:st.objs[i]?=some (.list (ts.map S))) (hj:st.objs[j]?=some (.list (ts.map S))) (da:den ρ (.obj i) a) (db:den ρ (.obj j) b):Tri x ρ st (compareOp .Eq a b) st fun zz r=>r= .bool true:=by
 intro s Q E R kk
 refine aF fun gq hgq=> ?_
 refine nW (uD (A:=x.A.in1) R hi hj da db) fun la lb us vs q4_ q5_ h1 h2 h3 h4=> ?_;subst q4_;subst q5_
 subst hgq
 have:=SeqAt.RcAt.lists (A:=x.A) (s:=s) (e:=fun zz=>true) h1 h2 h3 (by have:=hx.bud.2;omega) h4 P0 x.w E Q
 rw [yO]at this
 exact to1 (this (kk _ s ρ R (.refl ..) rfl))
theorem tN {op:CmpOp} {r:Expr} {env:Env} (hm:behindInMarks op r=false):markedEach [op] [r] (evalEach [r] env)=[eval r env]:=by
 show [markedBehindIn op r (eval r env)]=_
 unfold markedBehindIn
 rw [hm]
theorem uV {l r:Expr} {pos:Pos} (h1:DoesE K n sc l st (.obj i) st₁) (h2:DoesE K n sc r st₁ (.obj j) st₂) (hm:behindInMarks .NotEq r=false) (hi:st₂.objs[i]?=some (.list (ts.map S))) (hj:st₂.objs[j]?=some (.list (ts.map S))):
  cW K n sc (.Compare l [.NotEq] [r] pos) st false st₂:=by
 intro x hx ρ
 rw [arm_isTrue_Compare]
 refine(h1 x hx ρ).bind fun ρ₁ v ex hv=> ?_
 rw [tN hm]
 show Tri x ρ₁ st₁ (do let rv←holding [v] (eval r x.env);standAt pos;let c←operate [v,rv] (compareOp .NotEq v rv);holding [c] (truthy c)) _ _
 refine Tri.bind (Tri.holding (h2 x hx ρ₁)) fun ρ₂ u ex2 hu=> ?_
 refine Tri.standAt (Tri.bind (Tri.operate (yW hx.toRun hi hj (ex2.den hv) hu)) fun ρ₃ q ex3 hq=>Tri.holding ?_)
 subst hq
 exact bA fun s Q E k=>wpAny_truthy_bool (k _ s.toks rfl)
theorem uX {l r:Expr} {pos:Pos} (h1:DoesE K n sc l st (.obj i) st₁) (h2:DoesE K n sc r st₁ (.obj j) st₂) (hm:behindInMarks .Eq r=false) (hi:st₂.objs[i]?=some (.list (ts.map S))) (hj:st₂.objs[j]?=some (.list (ts.map S))):
  DoesE K n sc (.Compare l [.Eq] [r] pos) st (.bool true) st₂:=by
 intro x hx ρ
 rw [arm_eval_Compare]
 refine(h1 x hx ρ).bind fun ρ₁ v ex hv=> ?_
 rw [tN hm]
 show Tri x ρ₁ st₁ (do let rv←holding [v] (eval r x.env);standAt pos;operate [v,rv] (compareOp .Eq v rv)) _ _
 refine Tri.bind (Tri.holding (h2 x hx ρ₁)) fun ρ₂ u ex2 hu=> ?_
 exact Tri.standAt (Tri.operate (yX hx.toRun hi hj (ex2.den hv) hu))
end
end Mine
end
section
set_option maxHeartbeats 1000000
namespace Mine
noncomputable def rX (l:List Nat):List (Str×AV):=[("script",.obj 0),("patterns",.obj 4),("line",S l),("meant",.obj 6)]
noncomputable def obZ (fx:Fx) (cells:List Int) (more:List AO):List AO:=jY fx cells++(.list (((bH cells).map wrt).map S):: .list (((bH cells).map aX).map S)::more)
section
variable {K:Params→Frag} (hP:Prog5 K) {n:Nat} {cells:List Int} {fx:Fx} {ts1 ts2:List (List Nat)}
include hP
theorem mB (k:Nat) (ps:List (List Nat)):AO.below k (.list (ps.map S))=true:=aH4 k ps
theorem kU (k:Nat):(jY fx cells).all (AO.below k)=true:=by
 have h1:∀l:List Int,AO.below k (.list (l.map AV.isym))=true:=fun l=>by
  show(l.map AV.isym).all (AV.below k)=true
  rw [List.all_map]
  exact List.all_eq_true.mpr fun zz zz=>rfl
 simp only [jY,obS,obP,List.all_cons,h1,mB hP,List.all_nil,Bool.and_self]
 rfl
theorem xQ (k:Nat) {more:List AO} (h:more.all (AO.below k)=true):(obZ fx cells more).all (AO.below k)=true:=by
 rw [obZ,List.all_append,kU hP,List.all_cons,List.all_cons,mB hP,mB hP,h]
 rfl
theorem aM0 (hv:∀ρ,All2 (den ρ) (cells.map .isym) fx.vs) (hc:cells.length≤1000) (h1:mX (dD (bH cells)) ts1) (e1:((bH cells).map aX).flatMap cH=ts1.map S) (h2:cX (dD (bH cells)) ts2) (e2:((bH cells).map aX).flatMap aV=ts2)
  (z0:(dD (bH cells)).length≤100000) (z1:ts1.length≤1000) (z2:ts2.length≤100000) (z3:∀p∈bH cells,(aX p).length<1000):∃objs',objs'[0]?=some (.fix fx.vs fx.n)∧lL K (n+9) scL eJ ⟨[("script",.obj 0)],[.fix fx.vs fx.n]⟩ (.ret (.bool true)) ⟨rX (dD (bH cells)),objs'⟩:=by
 refine cK (qS cells) fun hpn hpl=> ?_
 have q:aO (aC aR 34)=[aC eJ 0]++(aC eJ 1::[aC eJ 2,aC eJ 3,aC eJ 4]):=by kernel_rfl
 have s0:DoesB K (n+9) scL [aC eJ 0] ⟨[("script",.obj 0)],[.fix fx.vs fx.n]⟩ .next ⟨[("script",.obj 0),("patterns",.obj 4)],jY fx cells⟩:=
  aB (m:=20) (k:=20) (td:=[.c (.obj 4) (jY fx cells)]) (obs:=[DoesCall K (n+9) (.ref 771) [.obj 0] [] [.fix fx.vs fx.n] (.obj 4) (jY fx cells)]) hP.tab (by kernel_rfl) (aA (wQ hP.toProg2 hv hc) all_nil)
 have hz1:∀p∈bH cells,p.length<1000:=fun p hp=>by have:=hpl p hp;omega
 have s1:=aQ1 hP.toProg3 (n:=n+7) (base:=jY fx cells) (kp:=4) (loc:=[("script",.obj 0),("patterns",.obj 4)]) hz1 (by omega) (kU hP _) rfl (aI (m:=3) (td:=[]) (obs:=[]) hP.tab (by kernel_rfl) all_nil)
 have s2:=aNl hP.toProg3 (n:=n+7) (base:=jY fx cells++[.list (((bH cells).map wrt).map S)]) (kp:=4) (loc:=[("script",.obj 0),("patterns",.obj 4),("line",S (dD (bH cells)))]) hz1 (by omega) (by rw [List.all_append,kU hP,List.all_cons,mB hP];rfl) rfl rfl (aI (m:=3) (td:=[]) (obs:=[]) hP.tab (by kernel_rfl) all_nil)
 have s2:DoesS K (n+9) scL (aC eJ 2) ⟨[("script",.obj 0),("patterns",.obj 4),("line",S (dD (bH cells)))],jY fx cells++[.list (((bH cells).map wrt).map S)]⟩ .next ⟨rX (dD (bH cells)),obZ fx cells []⟩:=by
  have e:obZ fx cells []=jY fx cells++[.list (((bH cells).map wrt).map S)]++[.list (((bH cells).map aX).map S)]:=by rw [List.append_assoc];rfl
  rw [e]
  exact s2
 have hms:∀t∈(bH cells).map aX,t.length<1000:=fun t ht=>by
  refine aF fun gq hgq=> ?_
  refine aH (List.mem_map.mp ht) fun p hp q2_=> ?_;subst q2_
  subst hgq
  exact z3 p hp
 have s3:DoesS K (n+9) scL (aC eJ 3) ⟨rX (dD (bH cells)),obZ fx cells []⟩ .next ⟨rX (dD (bH cells)),obZ fx cells [.list (ts1.map S),.list (ts1.map S)]⟩:=by
  have e:∃l b p1 p2,aC eJ 3= .If (.Compare l [.NotEq] [fR] p1) b [] p2∧l=(kE 0 (aQz ifL)):=⟨_,_,_,_,rfl,rfl⟩
  refine aF fun gq hgq=> ?_
  refine yS e fun l b p1 p2 e el=> ?_
  subst hgq
  rw [e]
  obtain⟨ob,o1,o2⟩:=aFm hP (n:=n) h1 (by rw [sizeLine_eq];omega) (by rw [sizeLine_eq];omega)
  have a1:DoesE K (n+9) scL l ⟨rX (dD (bH cells)),obZ fx cells []⟩ (.obj 7) ⟨rX (dD (bH cells)),obZ fx cells [.list (ts1.map S)]⟩:=by
   rw [el]
   exact aI (m:=20) (td:=[.c (.obj 7) (obZ fx cells [.list (ts1.map S)])]) (obs:=[DoesCall K (n+9) (.ref 744) [S (dD (bH cells))] [] (obZ fx cells []) (.obj 7) (obZ fx cells [.list (ts1.map S)])]) hP.tab (by kernel_rfl)
    (aA (o2.frame1 (objs:=obZ fx cells []) rfl o1 (aF7 _) rfl) all_nil)
  have a2:=aMi hP.toProg3 (n:=n+7) (base:=obZ fx cells [.list (ts1.map S)]) (ms:=(bH cells).map aX) (km:=6) (loc:=rX (dD (bH cells))) (fun t ht=>by have:=hms t ht;omega) (by rw [List.length_map];omega) (xQ hP _ (by rw [List.all_cons,mB hP];rfl)) rfl (aI (m:=3) (td:=[]) (obs:=[]) hP.tab (by kernel_rfl) all_nil)
  rw [e1]at a2
  exact eP (uV (i:=7) (j:=8) (ts:=ts1) a1 a2 (by rfl) rfl rfl) cM
 have s4:∃objs',objs'[0]?=some (.fix fx.vs fx.n)∧DoesS K (n+9) scL (aC eJ 4) ⟨rX (dD (bH cells)),obZ fx cells [.list (ts1.map S),.list (ts1.map S)]⟩ (.ret (.bool true)) ⟨rX (dD (bH cells)),objs'⟩:=by
  have e:∃l p1 p2,aC eJ 4= .Return (some (.Compare l [.Eq] [iI] p1)) p2∧l=(kE 0 (aOi)):=⟨_,_,_,rfl,rfl⟩
  refine aF fun gq hgq=> ?_
  refine nX e fun l p1 p2 e el=> ?_
  subst hgq
  rw [e]
  obtain⟨ob,o1,o2⟩:=aJm hP (n:=n+2) h2 (by rw [sizeLine_eq];omega) (by rw [sizeLine_eq];omega)
  have a1:DoesE K (n+9) scL l ⟨rX (dD (bH cells)),obZ fx cells [.list (ts1.map S),.list (ts1.map S)]⟩ (.obj 9) ⟨rX (dD (bH cells)),obZ fx cells [.list (ts1.map S),.list (ts1.map S),.list (ts2.map S)]⟩:=by
   rw [el]
   exact aI (m:=20) (td:=[.c (.obj 9) (obZ fx cells [.list (ts1.map S),.list (ts1.map S),.list (ts2.map S)])]) (obs:=[DoesCall K (n+9) (.ref 785) [S (dD (bH cells))] [] (obZ fx cells [.list (ts1.map S),.list (ts1.map S)]) (.obj 9) (obZ fx cells [.list (ts1.map S),.list (ts1.map S),.list (ts2.map S)])]) hP.tab (by kernel_rfl)
    (aA (o2.frame1 (objs:=obZ fx cells [.list (ts1.map S),.list (ts1.map S)]) rfl o1 (aF7 _) rfl) all_nil)
  have hb:∀k,(obZ fx cells [.list (ts1.map S),.list (ts1.map S),.list (ts2.map S)]).all (AO.below k)=true:=fun k=>xQ hP _ (by simp only [List.all_cons,mB hP,List.all_nil,Bool.and_self])
  have a2:=aKa hP.toProg3 (n:=n+7) (base:=obZ fx cells [.list (ts1.map S),.list (ts1.map S),.list (ts2.map S)]) (ms:=(bH cells).map aX) (km:=6) (loc:=rX (dD (bH cells))) (fun t ht=>by have:=hms t ht;omega) (by rw [e2];exact z2) (hb _) (hb _) rfl rfl (aI (m:=3) (td:=[]) (obs:=[]) hP.tab (by kernel_rfl) all_nil)
  rw [e2]at a2
  exact⟨_,rfl,gI (uX (i:=9) (j:=10) (ts:=ts2) a1 a2 (by rfl) rfl rfl)⟩
 refine aH s4 fun objs' s5 s4=> ?_
 refine⟨objs',s5, ?_⟩
 show lL K (n+9) scL (aO (aC aR 34)) _ _ _
 rw [q]
 exact mS s0 (rI s1 (yI (bD s2 (bD s3 (jR s4 (by intro h;cases h))))))
end
end Mine
end
section
namespace Mine
theorem nF (c:Nat):∀(l:List Nat) (p:Nat),bO c l (p+1)=(bO c l p).map (· +1)
 |[],_=>rfl
 |d::r,p=>by
  unfold bO
  rw [nF c r (p+1)]
  split<;>simp
theorem idxs_none {c:Nat}:∀{l:List Nat} {p:Nat},bO c l p=[]↔c∉l
 |[],_=>by simp [bO]
 |d::r,p=>by
  unfold bO
  by_cases h:d=c
  ·simp [h]
  ·rw [if_neg h,idxs_none]
   simp [Ne.symm h]
theorem uN (c:Nat) (q:List Nat):mO (c::q)=if 10∈q then mO q+1 else if c=10 then 1 else 0:=by
 unfold mO dW
 by_cases hq:10∈q
 ·rw [if_pos hq]
  have hne:bO 10 q 0≠ []:=fun e=>(idxs_none.mp e) hq
  refine iK (List.exists_cons_of_ne_nil hne) fun a l e=> ?_
  have e1:bO 10 q 1=(bO 10 q 0).map (· +1):=nF 10 q 0
  have e2:(bO 10 (c::q) 0).getLast?=((bO 10 q 0).map (· +1)).getLast?:=by
   rw [show bO 10 (c::q) 0=if c=10 then 0::bO 10 q 1 else bO 10 q 1 from rfl,e1]
   split
   ·rw [e];simp
   ·rfl
  rw [e2,List.getLast?_map]
  cases h:(bO 10 q 0).getLast? with
  |none=>rw [e]at h;simp at h
  |some i=>rfl
 ·rw [if_neg hq]
  have e1:bO 10 q 1=[]:=idxs_none.mpr hq
  unfold bO
  rw [e1]
  by_cases hc:c=10<;>simp [hc]
theorem aF4 {q:List Nat} (h:10∉q):mO q=0:=by
 unfold mO dW
 rw [idxs_none.mpr h]
 rfl
theorem jO (q:List Nat) (f c:Nat):(bJ 91 q f<0∧bJ 91 (c::q) (f+1)<0)∨∃j:Nat,bJ 91 q f=(j:Int)∧bJ 91 (c::q) (f+1)=((j+1:Nat):Int):=by
 unfold bJ
 rw [List.drop_succ_cons,nF]
 cases bO 91 (q.drop f) f with
 |nil=>left;simp
 |cons i r=>exact .inr ⟨i,rfl,rfl⟩
theorem qR {c:Nat} {q:List Nat} (h:¬(c=91∧10∉q)):(bE q<0∧bE (c::q)<0)∨∃j:Nat,bE q=(j:Int)∧bE (c::q)=((j+1:Nat):Int):=by
 unfold bE
 rw [uN]
 by_cases hq:10∈q
 ·rw [if_pos hq];exact jO q _ c
 ·rw [if_neg hq,aF4 hq]
  by_cases hc:c=10
  ·rw [if_pos hc];exact jO q 0 c
  ·rw [if_neg hc]
   have h9:c≠91:=fun e=>h ⟨e,hq⟩
   have:bJ 91 (c::q) 0=bJ 91 (c::q) (0+1):=by
    unfold bJ
    rw [List.drop_zero,List.drop_succ_cons,List.drop_zero]
    conv=>lhs;unfold bO
    rw [if_neg h9]
   rw [this]
   exact jO q 0 c
theorem xK {c:Nat} (h:c≠91) (l:List Nat):aQ 91 [] (c::l)=c::aQ 91 [] l:=by
 unfold aQ;rw [List.flatMap_cons,if_neg h];rfl
theorem xJ (l:List Nat):aQ 91 [] (91::l)=aQ 91 [] l:=by
 unfold aQ;rw [List.flatMap_cons,if_pos rfl];rfl
theorem zE {c:Nat} (h:c≠91) (q:List Nat):aW (c::q)=c::aW q:=by
 unfold aW
 rcases qR (c:=c) (q:=q) (fun e=>h e.1)with⟨h1,h2⟩|⟨j,h1,h2⟩
 ·rw [if_pos h1,if_pos h2,xK h];rfl
 ·rw [h1,h2,if_neg (by lia),if_neg (by lia)]
  simp only [Int.toNat_natCast]
  rw [List.take_succ_cons,xK h,List.drop_succ_cons]
  rfl
theorem zD {q:List Nat} (h:10∈q):aW (91::q)=aW q:=by
 unfold aW
 rcases qR (c:=91) (q:=q) (fun e=>e.2 h)with⟨h1,h2⟩|⟨j,h1,h2⟩
 ·rw [if_pos h1,if_pos h2,xJ]
 ·rw [h1,h2,if_neg (by lia),if_neg (by lia)]
  simp only [Int.toNat_natCast]
  rw [List.take_succ_cons,xJ,List.drop_succ_cons]
theorem aB4 {q:List Nat} (h:10∉q):aW (91::q)=57344::(q++[57345]):=by
 have e:bE (91::q)=((0:Nat):Int):=by
  unfold bE
  rw [uN,if_neg h,if_neg (by decide)]
  rfl
 unfold aW
 rw [e]
 rfl
theorem aJ0 {c:Nat} (h:c≠91) (q:List Nat):qY (c::q)=c::qY q:=by
 have e:bJ 91 (c::q) 0=bJ 91 (c::q) (0+1):=by
  unfold bJ
  rw [List.drop_zero,List.drop_succ_cons,List.drop_zero]
  conv=>lhs;unfold bO
  rw [if_neg h]
 unfold qY
 rw [e]
 rcases jO q 0 c with⟨h1,h2⟩|⟨j,h1,h2⟩
 ·rw [if_pos h1,if_pos h2]
 ·rw [h1,h2,if_neg (by lia),if_neg (by lia)]
  simp only [Int.toNat_natCast]
  rfl
noncomputable def mt:List (List Nat)→List Nat
 |[]=>[]
 |[q]=>qY q
 |q::q'::r=>aW q++mt (q'::r)
theorem gY (l:List Nat):aX l=mt (aD 93 l):=by
 have key:∀(ps:List (List Nat)) (h:ps≠ []),ps.dropLast.flatMap aW++qY (ps.getLast h)=mt ps:=by
  intro ps
  induction ps with
  |nil=>intro h;exact absurd rfl h
  |cons a r ih=>
   intro h
   cases r with
   |nil=>rfl
   |cons b r=>
    have:=ih (by simp)
    simp only [List.dropLast_cons_cons,List.flatMap_cons,List.getLast_cons (by simp:b::r≠ []),mt]
    rw [List.append_assoc,this]
 exact key _ _
theorem iC:∀r:List Nat,∃h t,aD 93 r=h::t∧93∉h∧((t=[]∧r=h)∨(t≠ []∧∃r',r=h++93::r'∧aD 93 r'=t))
 |[]=>⟨[],[],rfl,by simp,.inl ⟨rfl,rfl⟩⟩
 |c::r=>by
  refine kK (iC r) fun h t e hn hs=> ?_
  by_cases hc:c=93
  ·subst hc
   refine⟨[],aD 93 r, ?_,by simp,.inr ⟨bR _ _,r,rfl,rfl⟩⟩
   conv=>lhs;unfold aD
   rw [if_pos rfl]
  ·refine⟨c::h,t, ?_,by simp [Ne.symm hc,hn], ?_⟩
   ·conv=>lhs;unfold aD
    rw [if_neg hc,e]
   ·rcases hs with⟨rfl,rfl⟩|⟨ht,r',rfl,h2⟩
    ·exact .inl ⟨rfl,rfl⟩
    ·exact .inr ⟨ht,r',rfl,h2⟩
theorem jH {c:Nat} (hc:c≠93) {r:List Nat} {h:List Nat} {t:List (List Nat)} (e:aD 93 r=h::t):aD 93 (c::r)=(c::h)::t:=by
 conv=>lhs;unfold aD
 rw [if_neg hc,e]
theorem aIu:aX []=[]:=rfl
theorem tY {c:Nat} (h:c≠91) (r:List Nat):aX (c::r)=c::aX r:=by
 rw [gY,gY]
 by_cases hc:c=93
 ·subst hc
  have e:aD 93 (93::r)=[]::aD 93 r:=by
   conv=>lhs;unfold aD
   rw [if_pos rfl]
  rw [e]
  refine iK (List.exists_cons_of_ne_nil (bR 93 r)) fun a b q=> ?_
  rw [q]
  rfl
 ·refine iK (List.exists_cons_of_ne_nil (bR 93 r)) fun a b q=> ?_
  rw [jH hc q,q]
  cases b with
  |nil=>exact aJ0 h a
  |cons b bs=>show aW (c::a)++mt (b::bs)=c::(aW a++mt (b::bs));rw [zE h];rfl
theorem oM:∀{h:List Nat},93∉h→cU h=none
 |[],_=>rfl
 |c::h,q=>by
  have h1:c≠93:=fun e=>q (by rw [e];exact .head _)
  unfold cU
  rw [if_neg h1]
  split
  ·rfl
  ·rw [oM fun e=>q (.tail _ e)];rfl
theorem nC:∀{h:List Nat} (r:List Nat),93∉h→cU (h++93::r)=if 10∈h then none else some h.length
 |[],r,_=>rfl
 |c::h,r,q=>by
  have h1:c≠93:=fun e=>q (by rw [e];exact .head _)
  have ih:=nC r (h:=h) fun e=>q (.tail _ e)
  show cU (c::(h++93::r))=_
  unfold cU
  rw [if_neg h1,ih]
  by_cases hc:c=10
  ·rw [if_pos hc,if_pos (by rw [hc];exact .head _)]
  ·rw [if_neg hc]
   by_cases hh:10∈h
   ·rw [if_pos hh,if_pos (.tail _ hh)];rfl
   ·rw [if_neg hh,if_neg (by simp [Ne.symm hc,hh])];rfl
theorem xS {r:List Nat} {k:Nat} (h:cU r=some k):aX (91::r)=57344::(r.take k++57345::aX (r.drop (k+1))):=by
 refine kK (iC r) fun a t e hn hs=> ?_
 rcases hs with⟨rfl,rfl⟩|⟨ht,r',rfl,h2⟩
 ·rw [oM hn]at h;cases h
 ·rw [nC _ hn]at h
  split at h
  ·cases h
  ·rename_i hh
   cases h
   rw [gY,gY,jH (by decide) e]
   refine iK (List.exists_cons_of_ne_nil ht) fun b bs q2_=> ?_;subst q2_
   show aW (91::a)++mt (b::bs)=_
   rw [aB4 hh]
   have e1:(a++93::r').take a.length=a:=by simp
   have e2:(a++93::r').drop (a.length+1)=r':=by rw [List.drop_append];simp
   rw [e1,e2,h2]
   simp
theorem tX {r:List Nat} (h:cU r=none) (h9:93∈r):aX (91::r)=aX r:=by
 refine kK (iC r) fun a t e hn hs=> ?_
 rcases hs with⟨rfl,rfl⟩|⟨ht,r',rfl,h2⟩
 ·exact absurd h9 hn
 ·rw [nC _ hn]at h
  split at h
  ·rename_i hh
   rw [gY,gY,jH (by decide) e,e]
   refine iK (List.exists_cons_of_ne_nil ht) fun b bs q2_=> ?_;subst q2_
   show aW (91::a)++mt (b::bs)=aW a++mt (b::bs)
   rw [zD hh]
  ·cases h
theorem xT {r:List Nat} (h9:93∉r):aX (91::r)=57344::r:=by
 refine kK (iC r) fun a t e hn hs=> ?_
 rcases hs with⟨rfl,rfl⟩|⟨ht,r',rfl,h2⟩
 ·rw [gY,jH (by decide) e];rfl
 ·exact absurd (List.mem_append.mpr (.inr (.head _))) h9
theorem xU:∀{x:List Nat} (r:List Nat),91∉x→aX (x++r)=x++aX r
 |[],r,_=>rfl
 |c::x,r,h=>by
  show aX (c::(x++r))=_
  rw [tY (fun e=>h (by rw [e];exact .head _)),xU r fun e=>h (.tail _ e)]
  rfl
end Mine
end
section
namespace Mine
inductive Pcs where
 |nil
 |opn (y:List Nat)
 |plain (x:List Nat) (r:Pcs)
 |set (y:List Nat) (r:Pcs)
noncomputable def Pcs.wt:Pcs→List Nat
 | .nil=>[]
 | .opn y=>91::aM y
 | .plain x r=>aM x++r.wt
 | .set y r=>91::(aM y++93::r.wt)
noncomputable def Pcs.mn:Pcs→List Nat
 | .nil=>[]
 | .opn y=>57344::y
 | .plain x r=>x++r.mn
 | .set y r=>57344::(y++57345::r.mn)
noncomputable def Pcs.pl:Pcs→List Nat
 | .nil=>[]
 | .opn y=>91::y
 | .plain x r=>x++r.pl
 | .set y r=>91::(y++93::r.pl)
noncomputable def low (l:List Nat):Prop:=∀c∈l,c<57344
noncomputable def Pcs.ok:Pcs→Prop
 | .nil=>True
 | .opn y=>low y
 | .plain x r=>x≠ []∧low x∧r.ok
 | .set y r=>low y∧r.ok
noncomputable def Pcs.isNil:Pcs→Bool
 | .nil=>true
 |_=>false
theorem qI (L:List Nat) (f p:Nat) (h:L.drop p=[]):bB L f p=[]:=by
 cases f with
 |zero=>rfl
 |succ f=>unfold bB;rw [h];rfl
theorem aC4 {l:List Nat} (h:low l) (k:Nat):low (l.drop k):=fun c hc=>h c (List.mem_of_mem_drop hc)
theorem aLd {l:List Nat} (h:low l) (k:Nat):low (l.take k):=fun c hc=>h c (List.mem_of_mem_take hc)
theorem lV {L l:List Nat} {p c:Nat} (h:L.drop p=c::l) (k:Nat):L.drop (p+1+k)=l.drop k:=by
 rw [←List.drop_drop,←List.drop_drop,h]
 rfl
theorem hZ (r:List Nat):r.takeWhile (· !=91)++r.drop (r.takeWhile (· !=91)).length=r:=by
 conv=>rhs;rw [←List.takeWhile_append_dropWhile (p:=(· !=91)) (l:=r)]
 congr 1
 have:=List.takeWhile_append_dropWhile (p:=(· !=91)) (l:=r)
 conv=>lhs;rw [←this]
 rw [List.drop_append]
 simp
theorem iF:∀r:List Nat,91∉r.takeWhile (· !=91)
 |[]=>by simp
 |c::r=>by
  rw [List.takeWhile_cons]
  split
  ·rename_i h
   have:c≠91:=by simpa using h
   simp [Ne.symm this,iF r]
  ·simp
theorem aGg:∀(n:Nat) (l:List Nat),l.length≤n→low l→∃P:Pcs,P.ok∧P.mn=aX l∧(P.isNil=true↔l=[])∧∀L p f,L.drop p=l→l.length<f→bB L f p=P.wt
 |n,[],_,_=>⟨.nil,trivial,rfl,by simp [Pcs.isNil],fun L p f h zz=>qI L f p h⟩
 |0,c::r,h,_=>absurd h (by simp)
 |n+1,c::r,h,hl=>by
  have hr:low r:=fun d hd=>hl d (.tail _ hd)
  have hn:r.length≤n:=by simpa using h
  by_cases hc:c=91
  ·subst hc
   cases hs:cU r with
   |some k=>
    have hk:=lP hs
    obtain⟨P,h1,h2,h3,h4⟩:=aGg n (r.drop (k+1)) (by rw [List.length_drop];lia) (aC4 hr _)
    refine⟨.set (r.take k) P,⟨aLd hr k,h1⟩, ?_,by simp [Pcs.isNil],fun L p f hd hf=> ?_⟩
    ·rw [Pcs.mn,h2,xS hs]
    ·obtain⟨f,rfl⟩:∃g,f=g+1:=⟨f - 1,by simp at hf;lia⟩
     unfold bB
     have e:cJ (L.drop p) p=some (.set,p,p+1+k+1):=by rw [hd];unfold cJ;rw [if_neg (by decide),hs]
     rw [e]
     show eB .set (cL L p (p+1+k+1))++bB L f (p+1+k+1)=_
     rw [h4 L (p+1+k+1) f (by rw [show p+1+k+1=p+1+(k+1)from by lia];exact lV hd _) (by rw [List.length_drop];simp at hf;lia)]
     have e2:cL L p (p+1+k+1)=91::r.take (k+1):=by
      unfold cL
      rw [hd,show p+1+k+1 - p=(k+1)+1 from by lia,List.take_succ_cons]
     have e3:iY (91::r.take (k+1))=r.take k:=by
      unfold iY
      rw [List.length_cons,List.length_take,Nat.min_eq_left (by lia),List.drop_succ_cons,List.drop_zero,List.take_take,Nat.min_eq_left (by lia)]
      congr 1
     rw [e2]
     show(91::(aM (iY (91::r.take (k+1)))++[93]))++P.wt=_
     rw [e3,Pcs.wt]
     simp
   |none=>
    by_cases h9:93∈r
    ·refine aQs (aGg n r hn hr) fun P h1 h2 h3 h4=> ?_
     have hne:r≠ []:=by intro e;rw [e]at h9;cases h9
     refine⟨P,h1,by rw [h2,tX hs h9],⟨fun e=>absurd (h3.mp e) hne,fun e=>by cases e⟩,fun L p f hd hf=> ?_⟩
     have e:cJ (L.drop p) p=cJ r (p+1):=by
      rw [hd]
      conv=>lhs;unfold cJ
      rw [if_neg (by decide),hs]
      exact if_pos h9
     have hd1:L.drop (p+1)=r:=by have:=lV hd 0;simpa using this
     obtain⟨f,rfl⟩:∃g,f=g+1:=⟨f - 1,by simp at hf;lia⟩
     rw [←h4 L (p+1) (f+1) hd1 (by simp at hf;lia)]
     conv=>lhs;unfold bB
     conv=>rhs;unfold bB
     rw [e,hd1]
    ·refine⟨.opn r,hr,by rw [Pcs.mn,xT h9],by simp [Pcs.isNil],fun L p f hd hf=> ?_⟩
     obtain⟨f,rfl⟩:∃g,f=g+1:=⟨f - 1,by simp at hf;lia⟩
     unfold bB
     have e:cJ (L.drop p) p=some (.opn,p,p+1+r.length):=by rw [hd];unfold cJ;rw [if_neg (by decide),hs];exact if_neg h9
     rw [e]
     show eB .opn (cL L p (p+1+r.length))++bB L f (p+1+r.length)=_
     rw [qI L f _ (by rw [lV hd];simp)]
     have e2:cL L p (p+1+r.length)=91::r:=by
      unfold cL
      rw [hd,show p+1+r.length - p=r.length+1 from by lia,List.take_succ_cons,List.take_length]
     rw [e2]
     show 91::aM ((91::r).drop 1)++[]=_
     rw [List.append_nil]
     rfl
  ·obtain⟨P,h1,h2,h3,h4⟩:=aGg n (r.drop (r.takeWhile (· !=91)).length) (by rw [List.length_drop];lia) (aC4 hr _)
   have hx:91∉c::r.takeWhile (· !=91):=by simp [Ne.symm hc,iF r]
   have hlow:low (c::r.takeWhile (· !=91)):=fun d hd=>by
    rcases List.mem_cons.mp hd with rfl|hd
    ·exact hl _ (.head _)
    ·exact hr d ((List.takeWhile_sublist _).subset hd)
   refine⟨.plain (c::r.takeWhile (· !=91)) P,⟨by simp,hlow,h1⟩, ?_,by simp [Pcs.isNil],fun L p f hd hf=> ?_⟩
   ·rw [Pcs.mn,h2,←xU _ hx,List.cons_append,hZ]
   ·obtain⟨f,rfl⟩:∃g,f=g+1:=⟨f - 1,by simp at hf;lia⟩
    unfold bB
    have e:cJ (L.drop p) p=some (.plain,p,p+1+(r.takeWhile (· !=91)).length):=by rw [hd];unfold cJ;exact if_pos hc
    rw [e]
    show eB .plain (cL L p (p+1+(r.takeWhile (· !=91)).length))++bB L f (p+1+(r.takeWhile (· !=91)).length)=_
    rw [h4 L _ f (lV hd _) (by rw [List.length_drop];simp at hf;lia)]
    have e2:cL L p (p+1+(r.takeWhile (· !=91)).length)=c::r.takeWhile (· !=91):=by
     unfold cL
     rw [hd,show p+1+(r.takeWhile (· !=91)).length - p=(r.takeWhile (· !=91)).length+1 from by lia,List.take_succ_cons]
     congr 1
     have h:=congrArg (List.take (r.takeWhile (· !=91)).length) (hZ r)
     rw [List.take_left]at h
     exact h.symm
    rw [e2]
    rfl
end Mine
end
section
namespace Mine
inductive Gs where
 |sp|c
 |a (t:List Nat)
noncomputable def gt:Pcs→Gs→List (List Nat)
 | .nil,.sp=>[]
 | .nil,.a t=>[t]
 | .nil,.c=>[[93]]
 | .opn y,.sp=>[[91],y]
 | .opn y,.a t=>[t,[91],y]
 | .opn y,.c=>[[93,91],y]
 | .plain x r,.sp=>gt r (.a x)
 | .plain x r,.a t=>gt r (.a (t++x))
 | .plain x r,.c=>[93]::gt r (.a x)
 | .set y r,.sp=>[91]::y::gt r .c
 | .set y r,.a t=>t::[91]::y::gt r .c
 | .set y r,.c=>[93,91]::y::gt r .c
noncomputable def Pcs.hd:Pcs→List Nat
 | .plain x r=>x++r.hd
 |_=>[]
noncomputable def Pcs.ch:Pcs→List (List Nat)
 | .nil=>[]
 | .opn y=>[y]
 | .plain x r=>r.ch
 | .set y r=>(y++57345::r.hd)::r.ch
theorem lN {c:Nat}:∀{x r h:List Nat} {t:List (List Nat)},c∉x→aD c r=h::t→aD c (x++r)=(x++h)::t
 |[],r,h,t,_,e=>e
 |d::x,r,h,t,q,e=>by
  have ih:=lN (x:=x) (fun z=>q (.tail _ z)) e
  show aD c (d::(x++r))=_
  conv=>lhs;unfold aD
  rw [if_neg (fun z=>q (by rw [←z];exact .head _)),ih]
  rfl
theorem aB6 (c:Nat) (r:List Nat):aD c (c::r)=[]::aD c r:=by
 conv=>lhs;unfold aD
 rw [if_pos rfl]
theorem gZ {l:List Nat} (h:low l):57344∉l∧57345∉l:=⟨fun q=>absurd (h _ q) (by decide),fun q=>absurd (h _ q) (by decide)⟩
theorem tB:∀P:Pcs,P.ok→aD 57344 P.mn=P.hd::P.ch
 | .nil,_=>rfl
 | .opn y,h=>by
  show aD 57344 (57344::y)=_
  have:=lN (c:=57344) (x:=y) (r:=[]) (h:=[]) (t:=[]) (gZ h).1 rfl
  rw [List.append_nil]at this
  rw [aB6,this]
  rfl
 | .plain x r,h=>lN (gZ h.2.1).1 (tB r h.2.2)
 | .set y r,h=>by
  show aD 57344 (57344::(y++57345::r.mn))=_
  have e:aD 57344 (57345::r.mn)=(57345::r.hd)::r.ch:=by
   conv=>lhs;unfold aD
   rw [if_neg (by decide),tB r h.2]
  rw [aB6,lN (gZ h.1).1 e]
  rfl
theorem aCk {c:Nat}:∀{y:List Nat} (h:List Nat) (p:Nat),c∉y→bO c (y++c::h) p=(p+y.length)::bO c h (p+y.length+1)
 |[],h,p,_=>by
  show bO c (c::h) p=_
  conv=>lhs;unfold bO
  rw [if_pos rfl]
  rfl
 |d::y,h,p,q=>by
  show bO c (d::(y++c::h)) p=_
  conv=>lhs;unfold bO
  rw [if_neg (fun z=>q (by rw [←z];exact .head _)),aCk h (p+1) fun z=>q (.tail _ z),List.length_cons]
  have e:p+1+y.length=p+(y.length+1):=by lia
  rw [e]
theorem aL6 {y h:List Nat} (hy:low y):bN 57345 (y++57345::h)=(y,[57345],h):=by
 unfold bN
 rw [aCk h 0 (gZ hy).2]
 simp only [Nat.zero_add]
 rw [List.take_left,List.drop_append]
 simp
theorem aL7 {y:List Nat} (hy:low y):bN 57345 y=(y,[],[]):=by
 unfold bN
 rw [idxs_none.mpr (gZ hy).2]
noncomputable def aEp (h:List Nat):List (List Nat):=if nz h then [h]else []
theorem yZ (m:Bool) (ts:List (List Nat)) {y:List Nat} (h:List Nat) (hy:low y):mE m ts (y++57345::h)=t1T m ts++[y]++[[93]]++aEp h∧tW (y++57345::h)= !nz h:=by
 unfold mE tW
 rw [aL6 hy]
 unfold aEp
 cases h<;>simp [nz]
theorem zA (m:Bool) (ts:List (List Nat)) {y:List Nat} (hy:low y):mE m ts y=t1T m ts++[y]:=by
 unfold mE
 rw [aL7 hy]
 simp [nz]
theorem zX:∀P:Pcs,P.ok→(∀ts t,cO P.ch false (ts++[t++P.hd])=ts++gt P (.a t))∧(∀ts,cO P.ch (!nz P.hd) (ts++[[93]]++aEp P.hd)=ts++gt P .c)
 | .nil,_=>⟨fun ts t=>by simp [Pcs.ch,Pcs.hd,cO,gt],fun ts=>by simp [Pcs.ch,Pcs.hd,cO,gt,aEp,nz]⟩
 | .opn y,h=>⟨fun ts t=>by simp [Pcs.ch,Pcs.hd,cO,gt,zA false _ h,t1T],fun ts=>by simp [Pcs.ch,Pcs.hd,cO,gt,aEp,nz,zA true _ h,t1T]⟩
 | .plain x r,h=>by
  refine cK (zX r h.2.2) fun h1 h2=> ?_
  refine⟨fun ts t=> ?_,fun ts=> ?_⟩
  ·have:=h1 ts (t++x)
   rw [List.append_assoc]at this
   exact this
  ·refine iK (List.exists_cons_of_ne_nil h.1) fun c x' q2_=> ?_;subst q2_
   have:=h1 (ts++[[93]]) (c::x')
   show cO r.ch (!nz ((c::x')++r.hd)) (ts++[[93]]++aEp ((c::x')++r.hd))=ts++[93]::gt r (.a (c::x'))
   rw [show ts++[93]::gt r (.a (c::x'))=ts++[[93]]++gt r (.a (c::x'))from by simp,←this]
   rfl
 | .set y r,h=>by
  refine cK (zX r h.2) fun h1 h2=> ?_
  refine⟨fun ts t=> ?_,fun ts=> ?_⟩
  ·refine cK (yZ false (ts++[t]) r.hd h.1) fun e1 e2=> ?_
   have:=h2 (ts++[t]++[[91]]++[y])
   show cO r.ch (tW (y++57345::r.hd)) (mE false (ts++[t++[]]) (y++57345::r.hd))=ts++t::[91]::y::gt r .c
   rw [List.append_nil,e1,e2]
   show cO r.ch (!nz r.hd) (ts++[t]++[[91]]++[y]++[[93]]++aEp r.hd)=_
   rw [this]
   simp
  ·refine cK (yZ true (ts++[[93]]) r.hd h.1) fun e1 e2=> ?_
   have:=h2 (ts++[[93,91]]++[y])
   show cO r.ch (tW (y++57345::r.hd)) (mE true (ts++[[93]]++[]) (y++57345::r.hd))=ts++[93,91]::y::gt r .c
   rw [List.append_nil,e1,e2]
   have e3:t1T true (ts++[[93]])=ts++[[93,91]]:=by simp [t1T]
   rw [e3,this]
   simp
theorem aK9 (P:Pcs) (h:P.ok):aV P.mn=gt P .sp:=by
 unfold aV
 rw [tB P h]
 show cO P.ch false (cG P.hd)=_
 cases P with
 |nil=>rfl
 |opn y=>show cO [y] false []=_;simp [cO,zA false _ h,t1T,gt]
 |plain x r=>
  refine iK (List.exists_cons_of_ne_nil h.1) fun c x' q2_=> ?_;subst q2_
  exact(zX r h.2.2).1 [] (c::x')
 |set y r=>
  refine cK (yZ false [] r.hd h.1) fun e1 e2=> ?_
  have:=(zX r h.2).2 ([[91]]++[y])
  show cO r.ch (tW (y++57345::r.hd)) (mE false [] (y++57345::r.hd))=_
  rw [e1,e2]
  exact this
theorem uP:∀(qs:List (List Nat)) (m:Bool) (ts:List (List Nat)),(cO qs m ts).length≤ts.length+4*qs.length
 |[],m,ts=>by simp [cO]
 |q::qs,m,ts=>by
  have h1:=uP qs (tW q) (mE m ts q)
  have h2:=aAs m ts q
  unfold cO
  rw [List.length_cons]
  lia
theorem aDq (l:List Nat):(aV l).length≤1+4*(l.length+1):=by
 unfold aV
 have h:=eZ 57344 l
 split
 ·rename_i c qs e
  rw [e,List.length_cons]at h
  have h1:=uP qs false (cG c)
  have h2:=xE c
  lia
 ·simp
theorem jL {c:Nat} {z:List Nat}:∀{l:List Nat},c∉l→aQ c z l=l
 |[],_=>rfl
 |d::l,h=>by
  have ih:=jL (z:=z) (l:=l) fun q=>h (.tail _ q)
  unfold aQ at ih⊢
  rw [List.flatMap_cons,if_neg (fun q=>h (by rw [←q];exact .head _)),ih]
  rfl
theorem oS (c:Nat) (z l r:List Nat):aQ c z (l++r)=aQ c z l++aQ c z r:=by unfold aQ;rw [List.flatMap_append]
theorem oR (c:Nat) (z r:List Nat):aQ c z (c::r)=z++aQ c z r:=by unfold aQ;rw [List.flatMap_cons,if_pos rfl]
theorem oQ {c d:Nat} (h:d≠c) (z r:List Nat):aQ c z (d::r)=d::aQ c z r:=by unfold aQ;rw [List.flatMap_cons,if_neg h];rfl
theorem tK:∀P:Pcs,P.ok→nE P.mn=P.pl
 | .nil,_=>rfl
 | .opn y,h=>by
  unfold nE
  rw [Pcs.mn,oR,jL (gZ h).1]
  show aQ 57345 [93] (91::y)=91::y
  rw [oQ (by decide),jL (gZ h).2]
 | .plain x r,h=>by
  have ih:=tK r h.2.2
  unfold nE at ih⊢
  rw [Pcs.mn,oS,oS,ih,jL (gZ h.2.1).1,jL (gZ h.2.1).2]
  rfl
 | .set y r,h=>by
  have ih:=tK r h.2
  unfold nE at ih⊢
  rw [Pcs.mn,oR,oS 57344,oQ (c:=57344) (by decide),jL (gZ h.1).1]
  show aQ 57345 [93] (91::(y++57345::aQ 57344 [91] r.mn))=_
  rw [oQ (by decide),oS,oR,ih,jL (gZ h.1).2]
  rfl
theorem aRe (P:Pcs) (h:P.ok):nz P.mn= !P.isNil:=by
 cases P with
 |nil=>rfl
 |opn y=>rfl
 |plain x r=>
  refine iK (List.exists_cons_of_ne_nil h.1) fun c x' q2_=> ?_;subst q2_
  rfl
 |set y r=>rfl
end Mine
end
section
namespace Mine
theorem oN {c:Nat} (h:bX c=true):c≠32∧c≠39:=by
 constructor<;>rintro rfl<;>exact absurd h (by decide)
section
variable {tk x r:List Nat} {qd:Bool} {c:Nat}
theorem aM4:∀(x tk:List Nat),x.all bX=true→bW .a tk qd (x++r)=bW .a (tk++x) qd r
 |[],tk,_=>by simp
 |c::x,tk,h=>by
  rw [List.all_cons,Bool.and_eq_true]at h
  show bW .a tk qd (c::(x++r))=_
  conv=>lhs;unfold bW
  rw [if_neg (oN h.1).1,h.1,Bool.true_or,if_pos rfl,aM4 x _ h.2]
  simp
theorem aM3:∀(x tk:List Nat),x.all bX=true→bT .a tk qd (x++r)=bT .a (tk++x) qd r
 |[],tk,_=>by simp
 |c::x,tk,h=>by
  rw [List.all_cons,Bool.and_eq_true]at h
  show bT .a tk qd (c::(x++r))=_
  conv=>lhs;unfold bT
  rw [if_neg (oN h.1).1,if_pos h.1,aM3 x _ h.2]
  simp
theorem aGe:∀(x tk:List Nat) (qd:Bool),bW .q tk qd (aQ 39 [39,34,39,34,39] x++39::r)=bW .a (tk++x) true r
 |[],tk,qd=>by
  show bW .q tk qd (39::r)=_
  conv=>lhs;unfold bW
  rw [if_pos rfl,List.append_nil]
 |c::x,tk,qd=>by
  by_cases hc:c=39
  ·subst hc
   rw [oR]
   have e:bW .q tk qd (([39,34,39,34,39]++aQ 39 [39,34,39,34,39] x)++39::r)=bW .q (tk++[39]) true (aQ 39 [39,34,39,34,39] x++39::r):=rfl
   rw [e,aGe x]
   simp
  ·rw [oQ hc]
   show bW .q tk qd (c::(aQ 39 [39,34,39,34,39] x++39::r))=_
   conv=>lhs;unfold bW
   rw [if_neg hc,aGe x]
   simp
theorem aGd:∀(x tk:List Nat) (qd:Bool),bT .q tk qd (aQ 39 [39,34,39,34,39] x++39::r)=bT .a (tk++x) true r
 |[],tk,qd=>by
  show bT .q tk qd (39::r)=_
  conv=>lhs;unfold bT
  rw [if_pos rfl,List.append_nil]
 |c::x,tk,qd=>by
  by_cases hc:c=39
  ·subst hc
   rw [oR]
   have e:bT .q tk qd (([39,34,39,34,39]++aQ 39 [39,34,39,34,39] x)++39::r)=bT .q (tk++[39]) true (aQ 39 [39,34,39,34,39] x++39::r):=rfl
   rw [e,aGd x]
   simp
  ·rw [oQ hc]
   show bT .q tk qd (c::(aQ 39 [39,34,39,34,39] x++39::r))=_
   conv=>lhs;unfold bT
   rw [if_neg hc,aGd x]
   simp
theorem fN (x:List Nat):(x=[]∧aM x=[39,39])∨(x≠ []∧x.all bX=true∧aM x=x)∨(x≠ []∧aM x=39::(aQ 39 [39,34,39,34,39] x++[39])):=by
 unfold aM
 by_cases h:x=[]
 ·exact .inl ⟨h,if_pos h⟩
 ·rw [if_neg h]
  by_cases hs:x.all bX=true
  ·exact .inr (.inl ⟨h,hs,if_pos hs⟩)
  ·exact .inr (.inr ⟨h,if_neg hs⟩)
theorem aAl (x tk r:List Nat) (qd:Bool):∃qd',(qd=true∨x=[]→qd'=true)∧bW .a tk qd (aM x++r)=bW .a (tk++x) qd' r:=by
 rcases fN x with⟨rfl,e⟩|⟨h,hs,e⟩|⟨h,e⟩
 ·refine⟨true,fun zz=>rfl, ?_⟩
  rw [e,List.append_nil]
  rfl
 ·refine⟨qd,fun q=>q.resolve_right h, ?_⟩
  rw [e]
  exact aM4 x tk hs
 ·refine⟨true,fun zz=>rfl, ?_⟩
  rw [e]
  have:bW .a tk qd (39::(aQ 39 [39,34,39,34,39] x++[39])++r)=bW .q tk qd (aQ 39 [39,34,39,34,39] x++39::r):=by
   rw [List.cons_append,List.append_assoc]
   rfl
  rw [this,aGe]
theorem aQv (x tk r:List Nat) (qd:Bool):∃qd',(qd=true∨x=[]→qd'=true)∧bT .a tk qd (aM x++r)=bT .a (tk++x) qd' r:=by
 rcases fN x with⟨rfl,e⟩|⟨h,hs,e⟩|⟨h,e⟩
 ·refine⟨true,fun zz=>rfl, ?_⟩
  rw [e,List.append_nil]
  rfl
 ·refine⟨qd,fun q=>q.resolve_right h, ?_⟩
  rw [e]
  exact aM3 x tk hs
 ·refine⟨true,fun zz=>rfl, ?_⟩
  rw [e]
  have:bT .a tk qd (39::(aQ 39 [39,34,39,34,39] x++[39])++r)=bT .q tk qd (aQ 39 [39,34,39,34,39] x++39::r):=by
   rw [List.cons_append,List.append_assoc]
   rfl
  rw [this,aGd]
theorem aPe (x r:List Nat):∃qd',(x=[]→qd'=true)∧bW .sp [] false (aM x++r)=bW .a x qd' r:=by
 rcases fN x with⟨rfl,e⟩|⟨h,hs,e⟩|⟨h,e⟩
 ·refine⟨true,fun zz=>rfl, ?_⟩
  rw [e]
  rfl
 ·refine⟨false,fun q=>absurd q h, ?_⟩
  rw [e]
  refine iK (List.exists_cons_of_ne_nil h) fun c x q2_=> ?_;subst q2_
  rw [List.all_cons,Bool.and_eq_true]at hs
  show bW .sp [] false (c::(x++r))=_
  conv=>lhs;unfold bW
  rw [if_neg (oN hs.1).1,hs.1,Bool.true_or,if_pos rfl,aM4 x _ hs.2]
  rfl
 ·refine⟨true,fun zz=>rfl, ?_⟩
  rw [e]
  have:bW .sp [] false (39::(aQ 39 [39,34,39,34,39] x++[39])++r)=bW .q [] false (aQ 39 [39,34,39,34,39] x++39::r):=by
   rw [List.cons_append,List.append_assoc]
   rfl
  rw [this,aGe]
  rfl
theorem aEb (x r:List Nat):∃qd',(x=[]→qd'=true)∧bT .sp [] false (aM x++r)=bT .a x qd' r:=by
 rcases fN x with⟨rfl,e⟩|⟨h,hs,e⟩|⟨h,e⟩
 ·refine⟨true,fun zz=>rfl, ?_⟩
  rw [e]
  rfl
 ·refine⟨false,fun q=>absurd q h, ?_⟩
  rw [e]
  refine iK (List.exists_cons_of_ne_nil h) fun c x q2_=> ?_;subst q2_
  rw [List.all_cons,Bool.and_eq_true]at hs
  show bT .sp [] false (c::(x++r))=_
  conv=>lhs;unfold bT
  rw [if_neg (oN hs.1).1,if_pos hs.1,aM3 x _ hs.2]
  rfl
 ·refine⟨true,fun zz=>rfl, ?_⟩
  rw [e]
  have:bT .sp [] false (39::(aQ 39 [39,34,39,34,39] x++[39])++r)=bT .q [] false (aQ 39 [39,34,39,34,39] x++39::r):=by
   rw [List.cons_append,List.append_assoc]
   rfl
  rw [this,aGd]
  rfl
theorem aKi (x tk r:List Nat) (qd:Bool):bT .c tk qd (aM x++r)=some (some tk,false,aM x++r):=by
 have h39:∀s:List Nat,bT .c tk qd (39::s)=some (some tk,false,39::s):=fun s=>rfl
 rcases fN x with⟨rfl,e⟩|⟨h,hs,e⟩|⟨h,e⟩
 ·rw [e];exact h39 _
 ·rw [e]
  refine iK (List.exists_cons_of_ne_nil h) fun c x q2_=> ?_;subst q2_
  rw [List.all_cons,Bool.and_eq_true]at hs
  show bT .c tk qd (c::(x++r))=_
  conv=>lhs;unfold bT
  have hb:uL c=false:=by
   cases q:uL c with
   |false=>rfl
   |true=>
    have:c=91∨c=93:=by
     have:=memB_iff.mp (show mF c dC=true from q)
     simpa [dC]using this
    rcases this with rfl|rfl<;>exact absurd hs.1 (by decide)
  rw [if_neg (oN hs.1).1,hb,if_neg (by decide),hs.1,Bool.true_or,if_pos rfl]
  rfl
 ·rw [e];exact h39 _
end
end Mine
end
section
namespace Mine
noncomputable def vU (n:Nat) (o:Option (Option (List Nat)×Bool×List Nat)):Prop:=match o with
 |some y=>y.2.2.length≤n
 |none=>True
theorem fY {c:Prop} {d:Decidable c} {n:Nat} {a b:Option (Option (List Nat)×Bool×List Nat)} (h1:vU n a) (h2:vU n b):vU n (@ite _ c d a b):=by
 by_cases q:c
 ·rw [if_pos q];exact h1
 ·rw [if_neg q];exact h2
theorem aRi {n:Nat} {o:Option (Option (List Nat)×Bool×List Nat)} (h:vU n o):vU (n+1) o:=by
 cases o with
 |none=>trivial
 |some y=>exact Nat.le_succ_of_le h
theorem aBj:∀(r:List Nat) (m:Md) (tk:List Nat) (qd:Bool),vU r.length (bW m tk qd r)
 |[],m,tk,qd=>by cases m<;>first|exact trivial|exact Nat.le_refl 0
 |c::r,m,tk,qd=>by
  have ih:=fun m tk qd=>aRi (aBj r m tk qd)
  cases m with
  |sp=>exact fY (ih _ _ _) (fY (ih _ _ _) (fY (ih _ _ _) trivial))
  |a=>exact fY (Nat.le_succ _) (fY (ih _ _ _) (fY (ih _ _ _) (fY (ih _ _ _) trivial)))
  |q=>exact fY (ih _ _ _) (ih _ _ _)
  |d=>exact fY (ih _ _ _) (fY (ih _ _ _) trivial)
  |c=>exact trivial
theorem aBi:∀(r:List Nat) (m:Md) (tk:List Nat) (qd:Bool),vU r.length (bT m tk qd r)
 |[],m,tk,qd=>by cases m<;>first|exact trivial|exact Nat.le_refl 0
 |c::r,m,tk,qd=>by
  have ih:=fun m tk qd=>aRi (aBi r m tk qd)
  cases m with
  |sp=>exact fY (ih _ _ _) (fY (ih _ _ _) (fY (ih _ _ _) (fY (ih _ _ _) trivial)))
  |a=>exact fY (Nat.le_succ _) (fY (ih _ _ _) (fY (Nat.le_refl _) (fY (ih _ _ _) (fY (ih _ _ _) trivial))))
  |q=>exact fY (ih _ _ _) (ih _ _ _)
  |d=>exact fY (ih _ _ _) (fY (ih _ _ _) trivial)
  |c=>exact fY (Nat.le_succ _) (fY (ih _ _ _) (fY (Nat.le_refl _) trivial))
theorem aNa:∀(r:List Nat) (m:Md) (tk:List Nat) (qd:Bool) (v:Option (List Nat)) (e:Bool) (r':List Nat),bW m tk qd r=some (v,e,r')→r'.length≤r.length:=
 fun r m tk qd v e r' h=>by have:=aBj r m tk qd;rw [h]at this;exact this
theorem aN9:∀(r:List Nat) (m:Md) (tk:List Nat) (qd:Bool) (v:Option (List Nat)) (e:Bool) (r':List Nat),bT m tk qd r=some (v,e,r')→r'.length≤r.length:=
 fun r m tk qd v e r' h=>by have:=aBi r m tk qd;rw [h]at this;exact this
noncomputable def Out (T:List Nat→List (List Nat)→Prop) (o:Option (Option (List Nat)×Bool×List Nat)) (ts:List (List Nat)):Prop:=
 (∃r',o=some (none,true,r')∧ts=[])∨(∃t,o=some (some t,true,[])∧ts=[t])∨∃t r' ts',o=some (some t,false,r')∧T r' ts'∧ts=t::ts'
theorem xO {r:List Nat} {ts:List (List Nat)} (h:Out mX (bW .sp [] false r) ts):mX r ts:=by
 rcases h with⟨r',e,rfl⟩|⟨t,e,rfl⟩|⟨t,r',ts',e,h,rfl⟩
 ·exact .nil e
 ·exact .last e
 ·exact .cons e (aNa _ _ _ _ _ _ _ e) h
theorem fA {r:List Nat} {ts:List (List Nat)} (h:Out cX (bT .sp [] false r) ts):cX r ts:=by
 rcases h with⟨r',e,rfl⟩|⟨t,e,rfl⟩|⟨t,r',ts',e,h,rfl⟩
 ·exact .nil e
 ·exact .last e
 ·exact .cons e (aN9 _ _ _ _ _ _ _ e) h
theorem aAr {run:List Nat→Option (Option (List Nat)×Bool×List Nat)} {r:List Nat} {ts:List (List Nat)} (h:Toks run r ts):Out (Toks run) (run r) ts:=by
 cases h with
 |nil e=>exact .inl ⟨_,e,rfl⟩
 |last e=>exact .inr (.inl ⟨_,e,rfl⟩)
 |cons e _ h=>exact .inr (.inr ⟨_,_,_,e,h,rfl⟩)
noncomputable def aMf (k:List Nat) (ts:List (List Nat)):Prop:=(k=[]∧ts=[])∨∃k',k=32::k'∧cX k' ts
theorem aOs {k:List Nat} {ts:List (List Nat)} (h:aMf k ts) (t:List Nat) (qd:Bool):Out cX (bT .a t qd k) (t::ts):=by
 rcases h with⟨rfl,rfl⟩|⟨k',rfl,h⟩
 ·exact .inr (.inl ⟨t,rfl,rfl⟩)
 ·exact .inr (.inr ⟨t,k',ts,rfl,h,rfl⟩)
theorem aRq {k:List Nat} {ts:List (List Nat)} (h:aMf k ts) (t:List Nat) (qd:Bool):Out cX (bT .c t qd k) (t::ts):=by
 rcases h with⟨rfl,rfl⟩|⟨k',rfl,h⟩
 ·exact .inr (.inl ⟨t,rfl,rfl⟩)
 ·exact .inr (.inr ⟨t,k',ts,rfl,h,rfl⟩)
theorem aQb {k:List Nat} {ts:List (List Nat)} (h:aMf k ts):Out cX (bT .sp [] false k) ts:=by
 rcases h with⟨rfl,rfl⟩|⟨k',rfl,h⟩
 ·exact .inl ⟨[],rfl,rfl⟩
 ·have o:Out cX (bT .sp [] false k') ts:=aAr h
  exact o
theorem sU {k:List Nat} {ts:List (List Nat)} (h:aMf k ts) (y:List Nat):cX (aM y++k) (y::ts):=by
 refine aH (aEb y k) fun qd zz e=> ?_
 refine fA ?_
 rw [e]
 exact aOs h y qd
theorem aK8 {R:List Nat} {ts:List (List Nat)} (h:Out cX (bT .c [93] false R) ts) (y:List Nat):cX (aM y++93::R) (y::ts):=by
 refine aH (aEb y (93::R)) fun qd zz e=> ?_
 refine fA ?_
 rw [e]
 exact .inr (.inr ⟨y,93::R,ts,rfl,fA h,rfl⟩)
theorem sV {R:List Nat} {y:List Nat} {ts:List (List Nat)} (h:cX (aM y++R) ts):Out cX (bT .sp [] false (91::(aM y++R))) ([91]::ts):=by
 have e:bT .sp [] false (91::(aM y++R))=bT .c [91] false (aM y++R):=rfl
 rw [e,aKi]
 exact .inr (.inr ⟨_,_,_,rfl,h,rfl⟩)
theorem aOw {R:List Nat} {y t:List Nat} {qd:Bool} {ts:List (List Nat)} (h:cX (aM y++R) ts):Out cX (bT .a t qd (91::(aM y++R))) (t::[91]::ts):=
 .inr (.inr ⟨t,91::(aM y++R),[91]::ts,rfl,fA (sV h),rfl⟩)
theorem aOv {R:List Nat} {y:List Nat} {qd:Bool} {ts:List (List Nat)} (h:cX (aM y++R) ts):Out cX (bT .c [93] qd (91::(aM y++R))) ([93,91]::ts):=by
 have e:bT .c [93] qd (91::(aM y++R))=bT .c [93,91] qd (aM y++R):=rfl
 rw [e,aKi]
 exact .inr (.inr ⟨_,_,_,rfl,h,rfl⟩)
theorem zK {k:List Nat} {ts:List (List Nat)} (hk:aMf k ts):∀P:Pcs,(∀t qd,Out cX (bT .a t qd (P.wt++k)) (gt P (.a t)++ts))∧(∀qd,Out cX (bT .c [93] qd (P.wt++k)) (gt P .c++ts))∧Out cX (bT .sp [] false (P.wt++k)) (gt P .sp++ts)
 | .nil=>⟨fun t qd=>aOs hk t qd,fun qd=>aRq hk [93] qd,aQb hk⟩
 | .opn y=>⟨fun t qd=>aOw (sU hk y),fun qd=>aOv (sU hk y),sV (sU hk y)⟩
 | .plain x r=>by
  refine rS (zK hk r) fun h1 h2 h3=> ?_
  have h0:Out cX (bT .sp [] false ((Pcs.plain x r).wt++k)) (gt r (.a x)++ts):=by
   refine aH (aEb x (r.wt++k)) fun qd' zz e=> ?_
   rw [Pcs.wt,List.append_assoc,e]
   exact h1 x qd'
  refine⟨fun t qd=> ?_,fun qd=> ?_,h0⟩
  ·refine aH (aQv x t (r.wt++k) qd) fun qd' zz e=> ?_
   rw [Pcs.wt,List.append_assoc,e]
   exact h1 (t++x) qd'
  ·have h0:=fA h0
   rw [Pcs.wt,List.append_assoc]at h0⊢
   rw [aKi]
   exact .inr (.inr ⟨_,_,_,rfl,h0,rfl⟩)
 | .set y r=>by
  refine rS (zK hk r) fun h1 h2 h3=> ?_
  have h0:=aK8 (h2 false) y
  have e:(Pcs.set y r).wt++k=91::(aM y++93::(r.wt++k)):=by
   show 91::(aM y++93::r.wt)++k=_
   simp
  rw [e]
  exact⟨fun t qd=>aOw h0,fun qd=>aOv h0,sV h0⟩
theorem sW:∀Ps:List Pcs,cX (cT [32] (Ps.map Pcs.wt)) (Ps.flatMap fun P=>gt P .sp)
 |[]=>.nil rfl
 |[P]=>by
  have:=fA (zK (k:=[]) (ts:=[]) (.inl ⟨rfl,rfl⟩) P).2.2
  rw [List.append_nil,List.append_nil]at this
  simpa [cT]using this
 |P::Q::r=>by
  have ih:=sW (Q::r)
  have:=fA (zK (k:=32::cT [32] ((Q::r).map Pcs.wt)) (.inr ⟨_,rfl,ih⟩) P).2.2
  show cX (P.wt++[32]++cT [32] (Q.wt::r.map Pcs.wt)) (gt P .sp++(Q::r).flatMap fun P=>gt P .sp)
  rw [List.append_assoc]
  exact this
theorem zL (k:List Nat):∀(P:Pcs) (tk:List Nat) (qd:Bool),∃qd',bW .a tk qd (P.wt++k)=bW .a (tk++P.pl) qd' k
 | .nil,tk,qd=>⟨qd,by rw [Pcs.pl,List.append_nil];rfl⟩
 | .opn y,tk,qd=>by
  refine aH (aAl y (tk++[91]) k qd) fun qd' zz e=> ?_
  refine⟨qd', ?_⟩
  have:bW .a tk qd (91::(aM y++k))=bW .a (tk++[91]) qd (aM y++k):=rfl
  show bW .a tk qd (91::(aM y++k))=_
  rw [this,e,Pcs.pl,List.append_assoc]
  rfl
 | .plain x r,tk,qd=>by
  refine aH (aAl x tk (r.wt++k) qd) fun qd' zz e=> ?_
  refine cB (zL k r (tk++x) qd') fun qd'' e2=> ?_
  refine⟨qd'', ?_⟩
  rw [Pcs.wt,List.append_assoc,e,e2,Pcs.pl,List.append_assoc]
 | .set y r,tk,qd=>by
  refine aH (aAl y (tk++[91]) (93::(r.wt++k)) qd) fun qd' zz e=> ?_
  refine cB (zL k r (tk++[91]++y++[93]) qd') fun qd'' e2=> ?_
  refine⟨qd'', ?_⟩
  have e0:(Pcs.set y r).wt++k=91::(aM y++93::(r.wt++k)):=by
   show 91::(aM y++93::r.wt)++k=_
   simp
  have e1:bW .a tk qd (91::(aM y++93::(r.wt++k)))=bW .a (tk++[91]) qd (aM y++93::(r.wt++k)):=rfl
  have e3:bW .a (tk++[91]++y) qd' (93::(r.wt++k))=bW .a (tk++[91]++y++[93]) qd' (r.wt++k):=rfl
  rw [e0,e1,e,e3,e2,Pcs.pl]
  simp
theorem aG1 (k:List Nat) (P:Pcs) (h:P.isNil=false):∃qd',bW .sp [] false (P.wt++k)=bW .a P.pl qd' k:=by
 cases P with
 |nil=>cases h
 |opn y=>
  refine aH (aAl y [91] k false) fun qd' zz e=> ?_
  refine⟨qd', ?_⟩
  have:bW .sp [] false (91::(aM y++k))=bW .a [91] false (aM y++k):=rfl
  show bW .sp [] false (91::(aM y++k))=_
  rw [this,e]
  rfl
 |plain x r=>
  refine aH (aPe x (r.wt++k)) fun qd' zz e=> ?_
  refine cB (zL k r x qd') fun qd'' e2=> ?_
  refine⟨qd'', ?_⟩
  rw [Pcs.wt,List.append_assoc,e,e2]
  rfl
 |set y r=>
  refine aH (aAl y [91] (93::(r.wt++k)) false) fun qd' zz e=> ?_
  refine cB (zL k r ([91]++y++[93]) qd') fun qd'' e2=> ?_
  refine⟨qd'', ?_⟩
  have e0:(Pcs.set y r).wt++k=91::(aM y++93::(r.wt++k)):=by
   show 91::(aM y++93::r.wt)++k=_
   simp
  have e1:bW .sp [] false (91::(aM y++93::(r.wt++k)))=bW .a [91] false (aM y++93::(r.wt++k)):=rfl
  have e3:bW .a ([91]++y) qd' (93::(r.wt++k))=bW .a ([91]++y++[93]) qd' (r.wt++k):=rfl
  rw [e0,e1,e,e3,e2,Pcs.pl]
  simp
noncomputable def wds (P:Pcs):List (List Nat):=if P.isNil then []else [P.pl]
theorem aJy {P:Pcs} (h:P.isNil=true):P.wt=[]:=by cases P with|nil=>rfl|_=>cases h
theorem sX:∀Ps:List Pcs,mX (cT [32] (Ps.map Pcs.wt)) (Ps.flatMap wds)
 |[]=>.nil rfl
 |[P]=>by
  show mX P.wt (wds P++[])
  rw [List.append_nil]
  unfold wds
  cases h:P.isNil with
  |true=>rw [aJy h];exact .nil rfl
  |false=>
   refine cB (aG1 [] P h) fun qd e=> ?_
   rw [List.append_nil]at e
   exact .last e
 |P::Q::r=>by
  have ih:=sX (Q::r)
  show mX (P.wt++[32]++cT [32] (Q.wt::r.map Pcs.wt)) (wds P++(Q::r).flatMap wds)
  rw [List.append_assoc]
  unfold wds
  cases h:P.isNil with
  |true=>
   rw [aJy h]
   refine xO ?_
   have o:Out mX (bW .sp [] false (cT [32] (Q.wt::r.map Pcs.wt))) ((Q::r).flatMap wds):=aAr ih
   exact o
  |false=>
   refine cB (aG1 ([32]++cT [32] (Q.wt::r.map Pcs.wt)) P h) fun qd e=> ?_
   refine xO ?_
   rw [e]
   exact .inr (.inr ⟨_,_,_,rfl,ih,rfl⟩)
end Mine
end
section
namespace Mine
theorem lR:∀(n:Nat) (l:List Nat),l.length≤n→(aX l).length≤l.length
 |n,[],_=>by rw [aIu];exact Nat.le_refl _
 |0,c::r,h=>absurd h (by simp)
 |n+1,c::r,h=>by
  have hn:r.length≤n:=by simpa using h
  by_cases hc:c=91
  ·subst hc
   cases hs:cU r with
   |some k=>
    have hk:=lP hs
    have:=lR n (r.drop (k+1)) (by rw [List.length_drop];lia)
    rw [List.length_drop]at this
    rw [xS hs]
    simp only [List.length_cons,List.length_append,List.length_take]
    lia
   |none=>
    by_cases h9:93∈r
    ·rw [tX hs h9]
     have:=lR n r hn
     simp only [List.length_cons]
     lia
    ·rw [xT h9]
     simp
  ·rw [tY hc]
   have:=lR n r hn
   simp only [List.length_cons]
   lia
theorem aGx:∀ps:List (List Nat),(∀p∈ps,low p)→∃Ps:List Pcs,(∀P∈Ps,P.ok)∧Ps.map Pcs.wt=ps.map wrt∧Ps.map Pcs.mn=ps.map aX
 |[],_=>⟨[],by simp,rfl,rfl⟩
 |p::ps,h=>by
  refine aF fun gq hgq=> ?_
  refine iR (aGx ps fun q hq=>h q (.tail _ hq)) fun Ps h1 h2 h3=> ?_
  refine aQs (aGg p.length p (Nat.le_refl _) (h p (.head _))) fun P g1 g2 g3 g4=> ?_
  subst hgq
  refine⟨P::Ps,fun Q hQ=> ?_, ?_, ?_⟩
  ·rcases List.mem_cons.mp hQ with rfl|hQ
   ·exact g1
   ·exact h1 Q hQ
  ·rw [List.map_cons,List.map_cons,h2,←g4 p 0 (p.length+1) List.drop_zero (Nat.lt_succ_self _)]
   rfl
  ·rw [List.map_cons,List.map_cons,h3,g2]
theorem wZ:∀Ps:List Pcs,(∀P∈Ps,P.ok)→(Ps.map Pcs.mn).flatMap cH=(Ps.flatMap wds).map S
 |[],_=>rfl
 |P::Ps,h=>by
  have ih:=wZ Ps fun Q hQ=>h Q (.tail _ hQ)
  have hP:=h P (.head _)
  rw [List.map_cons,List.flatMap_cons,List.flatMap_cons,List.map_append,ih]
  congr 1
  unfold cH wds
  rw [aRe P hP,tK P hP]
  cases P.isNil<;>rfl
theorem yY:∀Ps:List Pcs,(∀P∈Ps,P.ok)→(Ps.map Pcs.mn).flatMap aV=Ps.flatMap fun P=>gt P .sp
 |[],_=>rfl
 |P::Ps,h=>by
  rw [List.map_cons,List.flatMap_cons,List.flatMap_cons,yY Ps fun Q hQ=>h Q (.tail _ hQ),aK9 P (h P (.head _))]
theorem aCd (m:Nat):∀qs:List (List Nat),(∀q∈qs,q.length≤m)→(cT [32] qs).length≤qs.length*(m+1)
 |[],_=>by simp [cT]
 |[a],h=>by have:=h a (.head _);simp [cT];lia
 |a::b::r,h=>by
  have ih:=aCd m (b::r) fun q hq=>h q (.tail _ hq)
  have:=h a (.head _)
  simp only [cT,List.length_append,List.length_cons,List.length_nil]at ih⊢
  rw [Nat.succ_mul]
  lia
theorem uQ {α β:Type} (f:α→List β) (m:Nat):∀l:List α,(∀a∈l,(f a).length≤m)→(l.flatMap f).length≤l.length*m
 |[],_=>by simp
 |a::l,h=>by
  have ih:=uQ f m l fun b hb=>h b (.tail _ hb)
  have:=h a (.head _)
  rw [List.flatMap_cons,List.length_append,List.length_cons,Nat.succ_mul]
  lia
theorem aMw (k:Nat):tblL.getD k 0<57344:=by
 have h:∀c∈tblL,c<57344:=by decide
 rw [List.getD_eq_getElem?_getD]
 cases e:tblL[k]? with
 |none=>decide
 |some c=>exact h c (List.mem_of_getElem? e)
theorem aKu (hi nu k:Int):xH hi nu k<57344:=by
 unfold xH
 split
 ·rw [Int.fmod_eq_emod_of_nonneg _ (by lia)];lia
 ·split
  ·rw [Int.fmod_eq_emod_of_nonneg _ (by lia)];lia
  ·exact aMw _
noncomputable def aLc (ps:List (List Nat)):Prop:=∀p∈ps,low p
theorem pW {ps:List (List Nat)} (h:aLc ps) (hi nu pl:Int):aLc (iA hi nu pl ps):=by
 unfold iA
 split
 ·intro p hp
  rcases List.mem_append.mp hp with hp|hp
  ·exact h p hp
  ·rw [List.mem_singleton.mp hp];intro c hc;cases hc
 ·unfold kA
  intro p hp
  rcases List.mem_append.mp hp with hp|hp
  ·exact h p (List.dropLast_subset _ hp)
  ·rw [List.mem_singleton.mp hp]
   intro c hc
   rcases List.mem_append.mp hc with hc|hc
   ·cases e:ps.getLast? with
    |none=>rw [List.getLastD_eq_getLast?,e]at hc;cases hc
    |some q=>rw [List.getLastD_eq_getLast?,e]at hc;exact h q (List.mem_of_getLast? e) c hc
   ·rw [List.mem_singleton.mp hc];exact aKu _ _ _
theorem uA:∀(cs:List Int) (ps:List (List Nat)),aLc ps→aLc (cs.foldl (fun ps c=>pK c ps) ps)
 |[],ps,h=>h
 |c::cs,ps,h=>uA cs _ (pW (pW (pW h _ _ _) _ _ _) _ _ _)
theorem aL5 (cells:List Int):aLc (bH cells):=by
 intro p hp
 rcases List.mem_append.mp hp with hp|hp
 ·exact uA _ _ (fun q hq=>by rw [List.mem_singleton.mp hq];intro c hc;cases hc) p hp
 ·have h:∀q∈fixedP,∀c∈q,c<57344:=by decide
  exact h p hp
theorem aIj (cells:List Int):∃ts1 ts2,mX (dD (bH cells)) ts1∧((bH cells).map aX).flatMap cH=ts1.map S∧cX (dD (bH cells)) ts2∧((bH cells).map aX).flatMap aV=ts2∧
  (dD (bH cells)).length≤100000∧ts1.length≤1000∧ts2.length≤100000∧∀p∈bH cells,(aX p).length<1000:=by
 refine aF fun gq hgq=> ?_
 refine iR (aGx (bH cells) (aL5 cells)) fun Ps h1 h2 h3=> ?_
 refine cK (qS cells) fun n1 n2=> ?_
 subst hgq
 have hml:∀p∈bH cells,(aX p).length≤18:=fun p hp=>Nat.le_trans (lR _ p (Nat.le_refl _)) (n2 p hp)
 have hlen:Ps.length=(bH cells).length:=by have:=congrArg List.length h3;simpa using this
 have hl:dD (bH cells)=cT [32] (Ps.map Pcs.wt):=by rw [h2];rfl
 refine⟨Ps.flatMap wds,Ps.flatMap fun P=>gt P .sp, ?_, ?_, ?_, ?_, ?_, ?_, ?_,fun p hp=>by have:=hml p hp;lia⟩
 ·rw [hl];exact sX Ps
 ·rw [←h3];exact wZ Ps h1
 ·rw [hl];exact sW Ps
 ·rw [←h3];exact yY Ps h1
 ·have:=aCd 180 ((bH cells).map wrt) fun q hq=>by
   refine aF fun gq hgq=> ?_
   refine aH (List.mem_map.mp hq) fun p hp q2_=> ?_;subst q2_
   subst hgq
   have:=aFs (l:=p) (by have:=n2 p hp;lia)
   have:=n2 p hp
   lia
  rw [List.length_map]at this
  unfold dD
  lia
 ·have:=uQ wds 1 Ps fun P zz=>by unfold wds;split<;>simp
  lia
 ·rw [←yY Ps h1,h3]
  have:=uQ aV 77 ((bH cells).map aX) fun q hq=>by
   refine aF fun gq hgq=> ?_
   refine aH (List.mem_map.mp hq) fun p hp q2_=> ?_;subst q2_
   subst hgq
   have:=aDq (aX p)
   have:=hml p hp
   lia
  rw [List.length_map]at this
  lia
end Mine
end
section
namespace Mine.G
theorem zB {prog:Program} {w:World} {t:Sem Fin} {s:Shared} {R:Result→Shared→Prop} (hreg:s.asleep)
  (h:wpP (aP prog w) callerA t (fun fin s'=>∃f,fin= .done f∧(R (.ok f) s'∧leftWithCleanup s'.gens=false)) (fun e s'=>R (.error e) s'∧leftWithCleanup s'.gens=false) s):
  ∃n r s' s'',s'.heap.life=s.heap.life∧schedN (denote table) prog w n (.single s ⟨t,.builtin "claim.caller" {},default,[]⟩)= .halted (outcomeOf r) s'∧s'.forget=s''.forget∧R r s'':=by
 have h':=h _ default caller_in ⟨by decide,rfl⟩
 have h':=Sem.wp_mono (aP prog w) _ t (post':=Sem.finPost (aP prog w) ⟨.builtin "claim.caller" {},none,none,[],none⟩ fun r s'=>R r s'∧leftWithCleanup s'.gens=false) (exc':=fun e zz s'=>R (.error e) s'∧leftWithCleanup s'.gens=false)
  (fun fin p' s' h'=>by obtain⟨f,rfl,hf⟩:=h';exact hf) (fun zz zz zz h'=>h') _ _ h'
 refine nX ((wp_iff_halts (M:=aP prog w) t R default s).mp h') fun n r s' hn hR=> ?_
 refine iR (runNI_real (aP prog w).den (aP prog w).prog (aP prog w).w hn (outcomeOf_ends r)) fun s'' hr hf hc=> ?_
 refine cB (aSm prog w n s _ _ _ hreg (outcomeOf_ends r) hc hr) fun m hm=> ?_
 exact⟨m,r,s'',s',runN_life _ _ _ hr,hm,hf,hR⟩
theorem aJq {c:ClaimW} {tree:List Value→Sem Fin} {w:World} {s:Shared} {free:Addr→Prop} {gens:Prop} {kept:Heap→Prop} (hz:s.asleep) (hgens:s.gens= #[])
  (spec:∀args,c.pre args=true→WData.layableAll args=true→∀ord:List DictEntry→List DictEntry,(∀l,(ord l).Perm l)→
   ∃vs s₁,layAllW c.records (classAt s.heap) w.params ord args s=some (vs,s₁)∧
    wpP (aP c.prog w) callerA (tree vs) (fun fin s'=>∃f,fin= .done f∧(c.Ends s args vs s₁ (.ok f) s'∧s'.os=s.os∧AllBare s'.gens∧kept s'.heap))
     (fun e s'=>c.Ends s args vs s₁ (.error e) s'∧s'.os=s.os∧AllBare s'.gens∧kept s'.heap) s₁):
  c.CallFrom (fun vs=>⟨tree vs,.builtin "claim.caller" {},default,[]⟩) w free gens kept s:=by
 intro args hpre hlay ord hord
 refine fL (spec args hpre hlay ord hord) fun vs s₁ hlaid hcode=> ?_
 have hal:=layAllW_rest _ _ _ hlaid
 obtain⟨k,r,s',s'',hlife,hsched,hfo,hE,hos,hkp⟩:=zB (prog:=c.prog) (w:=w) (t:=tree vs) (s:=s₁)
  (R:=fun r s'=>c.Ends s args vs s₁ r s'∧s'.os=s.os∧kept s'.heap) (Shared.asleep_of_life hal.2.2.2 hz)
  (cQ hcode (fun fin s' ⟨f,e,h1,h2,h3,h4⟩=>⟨f,e,⟨h1,h2,h4⟩,leftWithCleanup_false_of_bare h3⟩)
   fun e s' ⟨h1,h2,h3,h4⟩=>⟨⟨h1,h2,h4⟩,leftWithCleanup_false_of_bare h3⟩)
 refine aJx (Shared.forget_eq hfo) fun eh zz zz eo zz=> ?_
 have hE:=hE.congr eh
 rw [←eo]at hos
 refine⟨vs,s₁,hlaid,k,_,s',hsched, ?_,fun zz i x hx=> ?_, ?_, ?_,Shared.rest_eq hos⟩
 ·rcases hE with hE|hE
  ·exact aQr hE fun v q d1 d2 d3 d4 d5=>.inl ⟨v,congrArg outcomeOf q,d1,d2,d3,fun b o y zz=>d4 b o y,d5⟩
  ·exact aQp hE fun e ob cls q d1 d2 d3 d4 d5=>.inr ⟨e,ob,cls,congrArg outcomeOf q,d1,d2,d3,d4,fun b o y zz=>d5 b o y⟩
 ·rw [hgens]at hx;exact absurd hx (by simp)
 ·rw [eh];exact hkp
 ·rw [hlife,hal.2.2.2]
noncomputable def Walk1 (r:OpenRow) (q:Program) (loose:List Str) (XP:(Str→Option Value)→Heap→Prop) (YP:World→Heap→Prop):Prop:=
 ∀(w:World) (s₀ s₁:Shared) (mg mb:Str→Option Value),Ground q loose r.toRowW.records XP w s₀ mg mb s₀.heap→YP w s₀.heap→∀(args:List WData) (vs:List Value),
  r.toRowW.claim.pre args=true→(∃ord,layAllW r.toRowW.records (classAt s₀.heap) w.params ord args s₀=some (vs,s₁))→s₁.gens= #[]→
  ∃f,mg r.name=some f∧wpP (aP r.prog w) callerA (PySem.call f vs)
   (fun v s'=>GoodWG r.toRowW.claim (classAt s₀.heap) (ExcName.means s₀.heap) args s₁ (.ok (.ret v)) s')
   (fun e s'=>GoodWG r.toRowW.claim (classAt s₀.heap) (ExcName.means s₀.heap) args s₁ (.error e) s') s₁
theorem PySem.W.holds_open {r:OpenRow} {q:Program} {loose:List Str} {Xt:Shared→Bool} {XP:(Str→Option Value)→Heap→Prop} {α:Type} {Yf:Shared→α} {Ya:World→α} {YP:World→Heap→Prop} {d:DefRec} {kwd:List (Str×Expr)} {N:Nat}
  (left:LeftO r.prog q loose Xt Yf Ya N) (hY:∀w s,Yf s=Ya w→YP w s.heap) (_hYk:∀w h h',YP w h→(∀b o,h.get? b=some o→h'.get? b=some o)→YP w h')
  (hX:∀s,Xt s=true→XP (s.heap.nsMap mainGlobals) s.heap) (hXk:∀mg h h',XP mg h→(∀b o,h.get? b=some o→h'.get? b=some o)→XP mg h')
  (hdef:defOf q r.name=some (d,kwd)) (hp:r.prog.theDef r.name=some (d.params,d.body,d.scope)) (hk:kwWritten? d.params.kwonlyargs d.params.kw_defaults=some kwd)
  (hRf:∀s,Xt s=true→RecFacts r.records s.heap) (hwr:(!r.writes||r.records.isEmpty)=true)
  (k1:r.wellSaid=true) (ok:(chainsOk q&&opensWell r.prog&&(frees r.toRowW&&r.within.isEmpty))=true) (hb:r.prog.bare) (hw:r.toRowW.promised)
  (call:Walk1 r q loose XP YP):r.Holds:=by
 simp only [Bool.and_eq_true]at ok
 obtain⟨⟨hch,hop⟩,hfr,hwi⟩:=ok
 refine aJx (frees_parts hfr) fun hsame hu ha hap hm=> ?_
 have hwi:r.toRowW.claim.within=[]:=List.isEmpty_iff.mp hwi
 refine⟨k1,hw,⟨hb,hop, ?_⟩,hw.witness,fun w=>⟨(left.behind hX hch w).1,fun s' hs'=> ?_⟩⟩
 ·show r.makers.map _=[]
  rw [hm];rfl
 refine aF fun gq hgq=> ?_
 refine iR ((left.behind (XP:=fun mg h=>XP mg h∧RecFacts r.records h) (fun s hs=>⟨hX s hs,hRf s hs⟩) hch w).2 s' hs') fun s₀ hf hg0 h=> ?_
 refine aQr h fun s hT hz hgens hg G y=> ?_
 refine cK (G.X) fun gX RF=> ?_
 subst hgq
 have G0:Ground q loose [] XP w s (s.heap.nsMap mainGlobals) (s.heap.nsMap builtinsNs) s.heap:={G with X:=gX}
 have hgens:s.gens= #[]:=Array.eq_empty_of_size_eq_zero (beq_iff_eq.mp hgens)
 have GR:Ground q loose r.records XP w s _ _ s.heap:=RF.ground G0
 refine⟨s₀,hf,hg0,s,hT,fun n hn=> ?_,RF.1,RF.2.1, ?_⟩
 ·obtain rfl:n=r.name:=by split at hn<;>simp_all
  exact pinned_of_view hg G0 hdef hp hk
 refine aJq (c:=r.toRowW.claim) (tree:=fun vs=>do match←nsGet mainNs r.name with
   |some f=>do ret (←PySem.call f vs)
   |none=>unsupported "claim.caller:no-such-global") hz hgens fun args hpre hlay ord hord=> ?_
 obtain⟨⟨vs,s₁⟩,hlaid⟩:=Option.isSome_iff_exists.mp (layAllW_isSome (P:=w.params) (ord:=ord) GR.has args r.args s (pre_splitW hpre).1)
 have keeps:=layAllW_keeps _ _ _ hlaid
 have hal:=layAllW_rest _ _ _ hlaid
 refine iR (reads_layAllW hord _ _ _ hlaid hlay s₁.heap (fun zz zz e=>e)) fun as hrd hin hold=> ?_
 have L:Laid r.records w s s₁ args vs as:=⟨⟨ord,hord,hlaid⟩,hrd,hin,hold,keeps,hal.1.trans hgens,hal.2.2.1⟩
 have G₁:=GR.keeps hXk keeps
 refine aH (call w s s₁ _ _ GR (hY _ _ y) args vs hpre ⟨ord,hlaid⟩ (hal.1.trans hgens)) fun f hf h=> ?_
 have fin:∀{res s'},GoodWG r.toRowW.claim (classAt s.heap) (ExcName.means s.heap) args s₁ res s'→
   r.toRowW.claim.Ends s args vs s₁ res s'∧s'.os=s.os∧AllBare s'.gens∧(r.writes=true→namesKept r.prog r.keeps s.heap s'.heap∧∀x∈r.records,∀a,classAt s.heap x.1=some a→recordClass s'.heap a x.1 (x.2.map (·.1))=true):=fun g=>
  have z:=g.laid (c:=r.toRowW.claim) hsame hwi (ident_freeW hu ha hap) L
  ⟨z.1,z.2.1,z.2.2,fun q=>⟨namesKept_of hT hg _ keeps g.2.1.old,noTable hwr q⟩⟩
 refine⟨vs,s₁,hlaid,aT (wpAny_nsGet G₁.T.g ?_)⟩
 rw [hf]
 exact aY (cQ h (fun v s' g=>aZ ⟨_,rfl,fin g⟩) fun e s' g=>fin g)
end Mine.G
end
section
namespace Mine
noncomputable def aPo (vs:List Value):Obj:={cls:=.type "list",data:=.seq vs.toArray 0}
theorem aCb {R:WRecords} {cl:Str→Option Addr} {P:Params} {ord:List DictEntry→List DictEntry}:∀(ns:List Int) (s s':Shared) (vs:List Value),layAllW R cl P ord (ns.map .int) s=some (vs,s')→s'.heap=s.heap∧s'.gens=s.gens∧s'.os=s.os∧∀ρ,All2 (den ρ) (ns.map .isym) vs
 |[],s,s',vs,h=>by
  refine aF fun gq hgq=> ?_
  simp only [List.map_nil,layAllW,Option.some.injEq,Prod.mk.injEq]at h
  refine cK h fun q0_ q1_=> ?_;subst q0_;subst q1_
  subst hgq
  exact⟨rfl,rfl,rfl,fun zz=>.nil⟩
 |n::ns,s,s',vs,h=>by
  simp only [List.map_cons,layAllW,layW]at h
  cases e:layAllW R cl P ord (ns.map .int) {s with toks:=s.toks+1}with
  |none=>rw [e]at h;simp at h
  |some r=>
   refine aF fun gq hgq=> ?_
   obtain⟨us,s₂⟩:=r
   rw [e]at h
   simp only [Option.some.injEq,Prod.mk.injEq]at h
   refine cK h fun q0_ q1_=> ?_;subst q0_;subst q1_
   refine vW (aCb ns _ _ _ e) fun h1 h2 h3 h4=> ?_
   subst hgq
   exact⟨h1,h2,h3,fun ρ=>.cons ⟨_,rfl⟩ (h4 ρ)⟩
theorem aEx {R:WRecords} {cl:Str→Option Addr} {P:Params} {ord:List DictEntry→List DictEntry} {ns:List Int} {s s':Shared} {vs:List Value} (h:layAllW R cl P ord [.list (ns.map .int)] s=some (vs,s')):
  ∃us,vs=[.ref s.heap.objs.size]∧s'.heap=s.heap.push (aPo us)∧s'.gens=s.gens∧s'.os=s.os∧∀ρ,All2 (den ρ) (ns.map .isym) us:=by
 simp only [layAllW,layW]at h
 cases e:layAllW R cl P ord (ns.map .int) s with
 |none=>rw [e]at h;simp at h
 |some r=>
  refine aF fun gq hgq=> ?_
  obtain⟨us,s₂⟩:=r
  rw [e]at h
  simp only [Option.some.injEq,Prod.mk.injEq]at h
  refine cK h fun q0_ q1_=> ?_;subst q0_;subst q1_
  refine vW (aCb ns _ _ _ e) fun h1 h2 h3 h4=> ?_
  subst hgq
  exact⟨us,by rw [h1],by show s₂.heap.push _=_;rw [h1];rfl,h2,h3,h4⟩
theorem aNh {R:WRecords} {ns:List Int} (h:(PySem.Challenge.rw_mq0379_01.pre).holds R {args:=[.list (ns.map .int)]}=true):ns.length≤63:=by
 have e:PySem.Challenge.rw_mq0379_01.pre= .and (.not (.lt (.lit (.int 63)) (.len (.arg 0)))) (.lit (.bool true)):=by rfl
 rw [e]at h
 simp [WTm.holds,WTm.value]at h
 have el:less? (WData.int 63) (WData.int (ns.length:Int))=some (decide ((63:Int)<ns.length)):=by rfl
 rw [el]at h
 by_cases q:(63:Int)<ns.length
 ·rw [decide_eq_true q]at h
  simp at h
 ·omega
section
variable {K:Params→Frag} (hP:Prog5 K)
include hP
theorem aMt {w:World} {h₀:Heap} (G:Glo K w h₀) {s:Shared} {us:List Value} {cells:List Int} (hs:s.heap=h₀.push (aPo us)) (hv:∀ρ,All2 (den ρ) (cells.map .isym) us) (hc:cells.length≤63):
  wpP (aP P0 w) callerA (call (.ref 804) [.ref h₀.objs.size]) (fun v s'=>v= .bool true∧(∀b o,s.heap.get? b=some o→s'.heap.get? b=some o)∧s'.os=s.os∧s'.gens=s.gens) F0 s:=by
 refine aF fun gq hgq=> ?_
 refine aS7 (aIj cells) fun ts1 ts2 a1 a2 a3 a4 a5 a6 a7 a8=> ?_
 refine aH (aM0 hP (n:=0) (fx:=⟨us,0⟩) hv (by omega) a1 a2 a3 a4 a5 a6 a7 a8) fun objs' o0 hB=> ?_
 subst hgq
 have F:=hP.f804.fn
 refine aF fun gq hgq=> ?_
 refine vV (G.T) fun p loose mean mg mb T=> ?_
 subst hgq
 have k0:∀b o,h₀.get? b=some o→s.heap.get? b=some o:=fun b o e=>by rw [hs];exact Heap.get?_push_of_some _ e
 have hz:s.heap.objs.size=h₀.objs.size+1:=by rw [hs,Heap.size_push]
 have hS:s.heap.get? h₀.objs.size=some (aPo us):=by rw [hs];exact Heap.get?_push_size _ rfl
 have X:(K w.params).In s.heap:=G.X.keeps k0
 refine aF fun gq hgq=> ?_
 refine aH (hb1 (y:="script") (a:=.obj 0) hP.b804 w.params [⟨h₀.objs.size,none⟩] [.ref h₀.objs.size] [] (.cons ⟨_,rfl,rfl⟩ .nil) .nil) fun binds hbd hloc=> ?_
 refine aH (Option.map_eq_some_iff.mp (F.at_ w.params)) fun o ho hd=> ?_
 subst hgq
 have hp:=F.plain
 have hsc:=F.scope w.params
 have hN:h₀.get? h₀.objs.size=none:=Heap.get?_none_of_le (Nat.le_refl _)
 have hN2:h₀.get? s.heap.objs.size=none:=Heap.get?_none_of_le (by omega)
 refine sL (rM (by decide) (X _ _ ho) hd (T.nolimit.keeps k0) (codeRec_of X (F.code _)) (F.body _) (hbd s X) (by rw [hsc];exact hp.1) (by rw [hsc];exact hp.2.1) (by rw [hsc];exact hp.2.2.1) (by rw [hsc];exact hp.2.2.2) (fun y hy=> ?_) fun h' hn' hk' hz'=> ?_)
 ·rw [hsc]
  cases hloc with| @cons _ b _ _ q hloc=>
  cases hloc
  rw [List.mem_singleton.mp hy,←q.1,aN]
  kernel_rfl
 ·let env:=newEnv (gH (K w.params) 804).scope s.heap.objs.size (gH (K w.params) 804).globals (gH (K w.params) 804).closure ((gH (K w.params) 804).qualname++".<locals>.") (some 804) (gH (K w.params) 804).code none (gH (K w.params) 804).builtins
  let x':Cx:=⟨w,h₀,callerA.deeper env,env,s.heap.objs.size,[env]⟩
  have hx':x'.Ok K (0+9) scL:=⟨⟨G,rfl,⟨by show callerA.depth+1+2*(0+9)+2≤recursionLimit;decide,by show callerA.units+3+40*(0+9)+40≤cLine;decide⟩,rfl⟩,hsc,hp.2.2.1,rfl,F.globals _,F.builtins _⟩
  have hne:s.heap.objs.size≠h₀.objs.size:=by omega
  have R':Rel x'.hb x'.L x'.fr [⟨h₀.objs.size,none⟩] ⟨[("script",.obj 0)],[.fix us 0]⟩ {s with heap:=h',toks:=s.toks+binds.length}:=by
   refine⟨fun b o e=>hk' b o (k0 b o e),⟨_,hn',lS hloc (by rfl)⟩,hN2,rfl,fun i oo e=> ?_, ?_,fun a ha=> ?_,fun e he=> ?_, ?_⟩
   ·cases i with
    |zero=>cases e;exact⟨_,rfl,rfl,hk' _ _ hS⟩
    |succ i=>simp at e
   ·show(s.heap.objs.size::[h₀.objs.size]).Nodup
    simp [hne]
   ·have:a=h₀.objs.size:=by simpa [aS]using ha
    rw [this];exact hN
   ·rw [List.mem_singleton.mp he]
    refine aF fun gq hgq=> ?_
    refine aJw hn' fun oL es ep h1 h2 zz=> ?_
    subst hgq
    refine⟨?_,s.heap.objs.size,oL,es,ep,rfl,hN2,by simpa [aS]using hne,h1,h2⟩
    show(gH (K w.params) 804).scope.kind≠_
    rw [hsc,hp.2.2.1]
    decide
   ·cases hloc
    exact Nat.succ_pos _
  refine hB x' hx' [⟨h₀.objs.size,none⟩] _ _ R' fun fl' s' ρ' R2 N2 hfl=> ?_
  refine aF fun gq hgq=> ?_
  refine aH hfl fun v q1_ hv=> ?_;subst q1_
  refine iR (R2.objs 0 _ o0) fun y hy hyd hyo=> ?_
  refine aH (N2.ext) fun new e zz=> ?_
  rw [e]at hy
  cases hy
  subst hgq
  refine⟨hv,fun b ob eb=> ?_,N2.os,N2.gens⟩
  by_cases hb:b=h₀.objs.size
  ·subst hb
   rw [hS]at eb
   cases eb
   exact hyo
  ·rw [hs]at eb
   exact R2.base b ob (by rw [Heap.get?_push_ne _ _ _ hb]at eb;exact eb)
end
end Mine
end
section
namespace Mine
theorem fK {α:Type} {P:α→Prop} {a:α} {l:List α} (h:P a) (k:∀e∈l,P e):∀e∈a::l,P e:=fun e he=>by
 rcases List.mem_cons.mp he with rfl|he
 ·exact h
 ·exact k e he
theorem tP {α:Type} {P:α→Prop}:∀e∈([]:List α),P e:=fun e he=>by cases he
theorem aR2:TabOk KK mZ:=
 TabOk.of (fun P=>by kernel_rfl)
  (fK ⟨F.plainAttrs_str,F.slot_str_replace,F.type_str_replace⟩ (fK ⟨F.plainAttrs_str,F.slot_str_split,F.type_str_split⟩ (fK ⟨F.plainAttrs_str,F.slot_str_find,F.type_str_find⟩ (fK ⟨F.plainAttrs_str,F.slot_str_rfind,F.type_str_rfind⟩
   (fK ⟨F.plainAttrs_str,F.slot_str_partition,F.type_str_partition⟩ (fK ⟨F.plainAttrs_str,F.slot_str_join,F.type_str_join⟩ (fK ⟨F.plainAttrs_str,F.slot_str_translate,F.type_str_translate⟩ tP)))))))
  (fK ⟨iX,iD,oB⟩ (fK ⟨iX,kR,sM⟩ tP))
  (fK ⟨F.plainAttrs_list,F.slot_list_append,F.type_list_append⟩ tP)
theorem iP {f:Addr} {s:Stmt} (h1:∀P,fnB (KK P) f=true) (h2:∀P,(gH (KK P) f).body= .stmts (aO s)) (h3:∀P,(gH (KK P) f).scope=bC s) (h4:aG8 (bC s)=true):FnIs KK f s:=⟨h1,h2,h3,h4⟩
theorem aPt:Prog KK where
 tab:=aR2
 f63:=iP (fun P=>by kernel_rfl) (fun P=>by kernel_rfl) (fun P=>by kernel_rfl) (by kernel_rfl)
 b63:=fun v u P S=>by kernel_rfl
 f374:=iP (fun P=>by kernel_rfl) (fun P=>by kernel_rfl) (fun P=>by kernel_rfl) (by kernel_rfl)
 b374:=fun v u P S=>by kernel_rfl
 f381:=iP (fun P=>by kernel_rfl) (fun P=>by kernel_rfl) (fun P=>by kernel_rfl) (by kernel_rfl)
 b381:=fun v P S=>by kernel_rfl
 f543:=iP (fun P=>by kernel_rfl) (fun P=>by kernel_rfl) (fun P=>by kernel_rfl) (by kernel_rfl)
 b543:=fun v u P S=>by kernel_rfl
 f663:=iP (fun P=>by kernel_rfl) (fun P=>by kernel_rfl) (fun P=>by kernel_rfl) (by kernel_rfl)
 b663:=fun v P S=>by kernel_rfl
 f693:=iP (fun P=>by kernel_rfl) (fun P=>by kernel_rfl) (fun P=>by kernel_rfl) (by kernel_rfl)
 b693:=fun v P S=>by kernel_rfl
 f700:=iP (fun P=>by kernel_rfl) (fun P=>by kernel_rfl) (fun P=>by kernel_rfl) (by kernel_rfl)
 b700:=fun v P S=>by kernel_rfl
theorem aNg:Prog2 KK where
 toProg:=aPt
 fu:=fun P=>by kernel_rfl
 ps:=fun P=>⟨_,_,_,_,rfl,rfl,rfl,rfl,_,_,_,_,_,rfl,by kernel_rfl⟩
 pg:=fun P=>⟨_,_,_,_,rfl,rfl,rfl,rfl,_,_,_,_,_,rfl,by kernel_rfl⟩
 gd:=fun P=>by kernel_rfl
 pq:=fun P=>⟨_,_,_,_,rfl,rfl⟩
 pn:=fun P=>⟨_,rfl,rfl,rfl⟩
 gg:=fun P=>kZ (by kernel_rfl)
 f752:=iP (fun P=>by kernel_rfl) (fun P=>by kernel_rfl) (fun P=>by kernel_rfl) (by kernel_rfl)
 b752:=fun v P S=>by kernel_rfl
 f744:=iP (fun P=>by kernel_rfl) (fun P=>by kernel_rfl) (fun P=>by kernel_rfl) (by kernel_rfl)
 b744:=fun v P S=>by kernel_rfl
 f764:=iP (fun P=>by kernel_rfl) (fun P=>by kernel_rfl) (fun P=>by kernel_rfl) (by kernel_rfl)
 b764:=fun v P S=>by kernel_rfl
 f771:=iP (fun P=>by kernel_rfl) (fun P=>by kernel_rfl) (fun P=>by kernel_rfl) (by kernel_rfl)
 b771:=fun v P S=>by kernel_rfl
 f778:=iP (fun P=>by kernel_rfl) (fun P=>by kernel_rfl) (fun P=>by kernel_rfl) (by kernel_rfl)
 b778:=fun v P S=>by kernel_rfl
 f785:=iP (fun P=>by kernel_rfl) (fun P=>by kernel_rfl) (fun P=>by kernel_rfl) (by kernel_rfl)
 b785:=fun v P S=>by kernel_rfl
 f792:=iP (fun P=>by kernel_rfl) (fun P=>by kernel_rfl) (fun P=>by kernel_rfl) (by kernel_rfl)
 b792:=fun v P S=>by kernel_rfl
 f799:=iP (fun P=>by kernel_rfl) (fun P=>by kernel_rfl) (fun P=>by kernel_rfl) (by kernel_rfl)
 b799:=fun v P S=>by kernel_rfl
 f804:=iP (fun P=>by kernel_rfl) (fun P=>by kernel_rfl) (fun P=>by kernel_rfl) (by kernel_rfl)
 b804:=fun v P S=>by kernel_rfl
 f722:=iP (fun P=>by kernel_rfl) (fun P=>by kernel_rfl) (fun P=>by kernel_rfl) (by kernel_rfl)
 b722:=fun v P S=>by kernel_rfl
 f729:=iP (fun P=>by kernel_rfl) (fun P=>by kernel_rfl) (fun P=>by kernel_rfl) (by kernel_rfl)
 b729:=fun v P S=>by kernel_rfl
 f656:=iP (fun P=>by kernel_rfl) (fun P=>by kernel_rfl) (fun P=>by kernel_rfl) (by kernel_rfl)
 b656:=fun a v u P S=>by kernel_rfl
 b656':=fun a v u w P S=>by kernel_rfl
 f367:=iP (fun P=>by kernel_rfl) (fun P=>by kernel_rfl) (fun P=>by kernel_rfl) (by kernel_rfl)
 b367:=⟨756,fun a v P S=>by kernel_rfl⟩
 f90:=iP (fun P=>by kernel_rfl) (fun P=>by kernel_rfl) (fun P=>by kernel_rfl) (by kernel_rfl)
theorem aNf:Prog3 KK where
 toProg2:=aNg
 m732:=fun P=>by kernel_rfl
 i732:=fun P=>by kernel_rfl
 t656:=fun P=>by kernel_rfl
 i597:=fun P=>by kernel_rfl
 t367:=fun P=>by kernel_rfl
 n597:=fun P S=>by kernel_rfl
 s597:=fun P S=>by kernel_rfl
 mbo:=fun P S=>by kernel_rfl
 r597:=fun P=>by kernel_rfl
 c597:=fun P=>by kernel_rfl
 y597:=fun P=>by kernel_rfl
 u597:=fun P=>by kernel_rfl
 o597:=fun P=>by kernel_rfl
 k597:=fun P=>⟨_,_,_,rfl,rfl,rfl,rfl⟩
 k350:=fun P=>⟨_,_,_,rfl,rfl,rfl,rfl⟩
 w597:=fun P=>⟨94,[],by kernel_rfl,by kernel_rfl⟩
 won:=fun P=>by kernel_rfl
 gS:=fun P=>kZ (by kernel_rfl)
 gB:=fun P=>kZ (by kernel_rfl)
 gO:=fun P=>kZ (by kernel_rfl)
 b90:=fun P S c v X Y=>by kernel_rfl
theorem aNe:Prog5 KK where
 toProg3:=aNf
 it:=⟨fun P=>by kernel_rfl,fun P=>by kernel_rfl,fun P=>by kernel_rfl,fun P=>by kernel_rfl,fun P=>by kernel_rfl,fun P=>by kernel_rfl⟩
 fk:=fun P=>by kernel_rfl
end Mine
end
section
namespace Mine
theorem walk_top:G.Walk1 PySem.Challenge.rw_mq0379_01.row qV looseV (fun zz zz=>True) (InK KK):=by
 intro w s₀ s₁ mg mb GR Y args vs hpre hlay hg
 have X:(KK w.params).In s₀.heap:=Y
 have GL:Glo KK w s₀.heap:=⟨X,⟨_,_,_,_,_,GR.T⟩⟩
 refine cK (pre_splitW hpre) fun hs hp=> ?_
 refine kK (hasAllW_cons hs) fun d r q2_ h1 h2=> ?_;subst q2_
 obtain rfl:=hasAllW_nil h2
 refine aH (hasW_list h1) fun xs q1_ h3=> ?_;subst q1_
 refine cB (items_int h3) fun ns q1_=> ?_;subst q1_
 refine cB hlay fun ord hlay=> ?_
 refine aS8 (aEx hlay) fun us q1_ e1 e2 e3 e4=> ?_;subst q1_
 refine⟨.ref 804,mg_of X GR.T.g (by kernel_rfl),cQ (aMt aNe GL e1 e4 (aNh hp)) (fun v s' g=> ?_) fun e s' g=>g.elim⟩
 refine vW g fun q0_ hk ho hgs=> ?_;subst q0_
 exact⟨.inl ⟨_,_,[],rfl,fun zz=>rfl,ReadsW.bool true,by kernel_rfl,fun zz=>⟨List.nodup_nil,fun zz hm=>(nomatch hm)⟩⟩,.of_keep hk,ho,.of_eq (hgs.trans hg)⟩
end Mine
theorem PySem.Challenge.cw_mq0379_01_holds : PySem.Challenge.rw_mq0379_01.Holds := by
 refine holds_law Mine.said fun k1=> ?_
 refine Mine.G.PySem.W.holds_open (q:=Mine.qV) (loose:=Mine.looseV) (Xt:=fun zz=>true) (XP:=fun zz zz=>True) (Yf:=Mine.topY) (Ya:=Mine.topA) (YP:=InK Mine.KK) (N:=10562) Mine.left_top (InK.of Mine.asK_eq) InK.keeps (fun zz zz=>trivial) (fun zz zz zz zz zz=>trivial) (by rfl) (by rfl) (by rfl) (fun zz zz=>recFacts_nil rfl) (by rfl) k1 (by kernel_rfl) ⟨rfl,rfl,rfl,rfl,rfl,by decide+kernel⟩ ⟨[.list [.int 3,.int 1]],by decide+kernel,by decide+kernel⟩ Mine.walk_top
end
