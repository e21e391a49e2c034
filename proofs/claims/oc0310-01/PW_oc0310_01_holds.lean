import PyProof.Rows.All
import Wide.All
import OpenK.AllK
import Wide.FinOn
import KE.KIntText
import KE.KParD
import KE.KAnyBase
import KE.KOwnIter
import KE.KStopIter
import PySem.Challenge.RW_oc0310_01
open PySem PySem.W PyProof.Rows PySem.Calls
set_option Elab.async false
set_option maxRecDepth 100000
set_option linter.all false
namespace Mine
-- MBase
section
noncomputable abbrev P0 : Program := PySem.Challenge.pw_oc0310_01
noncomputable def stAt (i : Nat) : Stmt := P0.main.body.getD i (.Pass ⟨0, 0, 0, 0⟩)
noncomputable def mAt (i j : Nat) : Stmt := match stAt i with
  | .ClassDef _ _ _ b _ _ _ _ _ _ _ => b.getD j (.Pass ⟨0, 0, 0, 0⟩)
  | _ => .Pass ⟨0, 0, 0, 0⟩
noncomputable def fdOf (st : Stmt) (qual : Str) (dfl kwd doc pm cd ct : Value) : FuncData := match st with
  | .FunctionDef name args body _ _ _ scope _ _ _ => { name, qualname := qual, params := args, body := .stmts body, scope, globals := 3, closure := [], defaults := dfl, kwdefaults := kwd, doc, pyModule := pm, annotations := none, code := cd, closureTuple := ct, builtins := 0 }
  | _ => default
noncomputable def fnO (st : Stmt) (qual : Str) (dfl kwd doc pm cd ct : Value) : Obj := ⟨.type "function", none, .func (fdOf st qual dfl kwd doc pm cd ct), #[]⟩
noncomputable def en (P : Params) (x : Str) (t : Tok) (v : Value) : DictEntry := ⟨PyData.keyHash P x, .str x t, v⟩
-- the top's objects that the call looks at (written by a program of mine out of the model's run)
noncomputable def o48 : Obj := ⟨.type "tuple", none, .seq #[.int (14) 0, .int (8) 0, .int (1) 0, .int (2) 0, .int (4294967295) 0, .int (1) 0, .int (1) 0, .int (46) 0, .int (0) 0, .int (16) 0, .int (46) 0, .int (24) 0, .int (9) 0, .int (1) 0, .int (4294967295) 0, .int (13) 0, .int (4) 0, .int (8) 0, .int (0) 0, .int (0) 0, .int (1) 0, .int (6) 0, .int (5) 0, .int (1) 0] 0, #[]⟩
noncomputable def o49 : Obj := ⟨.type "re.Pattern", none, .fields #[.str (Str.ofString "\\.\\d+$") 334, .int (256) 361, .int (0) 0, .none, .none, .ref 48, .int (0) 0], #[]⟩
noncomputable def o55 : Obj := ⟨.type "code", none, .fields #[.str (Str.ofString "liberal_is_HDN") 363, .str (Str.ofString "liberal_is_HDN") 364, .str (Str.ofString "/claim/cut.py") 365, .int (8) 0, .int (1) 0, .int (0) 0, .int (0) 0, .int (3) 0, .ref 50, .bool true, .int (318) 0, .ref 51, .none, .ref 52, .ref 53, .ref 54, .int (367) 0, .int (8) 0, .str (Str.ofString "/claim/cut.py") 368], #[]⟩
noncomputable def o56 : Obj := fnO (stAt 5) (Str.ofString "liberal_is_HDN") (.none) (.none) (.none) (.str (Str.ofString "cpy313.http.cookiejar") 331) (.ref 55) (.none)
noncomputable def o62 : Obj := ⟨.type "code", none, .fields #[.str (Str.ofString "user_domain_match") 370, .str (Str.ofString "user_domain_match") 371, .str (Str.ofString "/claim/cut.py") 372, .int (12) 0, .int (2) 0, .int (0) 0, .int (0) 0, .int (3) 0, .ref 57, .bool true, .int (318) 0, .ref 58, .none, .ref 59, .ref 60, .ref 61, .int (376) 0, .int (12) 0, .str (Str.ofString "/claim/cut.py") 377], #[]⟩
noncomputable def o63 : Obj := fnO (stAt 6) (Str.ofString "user_domain_match") (.none) (.none) (.none) (.str (Str.ofString "cpy313.http.cookiejar") 331) (.ref 62) (.none)
noncomputable def o67 : Obj := ⟨.type "tuple", none, .seq #[.int (14) 0, .int (17) 0, .int (4) 0, .int (1) 0, .int (1) 0, .int (21) 0, .int (9) 0, .int (0) 0, .int (604043296) 0, .int (1) 0, .int (0) 0, .int (0) 0, .int (0) 0, .int (0) 0, .int (0) 0, .int (8) 0, .int (4) 0, .int (0) 0, .int (13) 0, .int (14) 0, .int (21) 0, .int (9) 0, .int (0) 0, .int (604043296) 0, .int (1) 0, .int (0) 0, .int (0) 0, .int (0) 0, .int (0) 0, .int (0) 0, .int (8) 0, .int (4) 0, .int (0) 0, .int (1) 0] 0, #[]⟩
noncomputable def o68 : Obj := ⟨.type "re.Pattern", none, .fields #[.str (Str.ofString "[^\\w@%+=:,./-]") 380, .int (256) 417, .int (0) 0, .none, .none, .ref 67, .int (0) 0], #[]⟩
noncomputable def o81 : Obj := ⟨.type "code", none, .fields #[.str (Str.ofString "_index") 429, .str (Str.ofString "_index") 430, .str (Str.ofString "/claim/cut.py") 431, .int (32) 0, .int (2) 0, .int (0) 0, .int (0) 0, .int (3) 0, .ref 76, .bool true, .int (318) 0, .ref 77, .none, .ref 78, .ref 79, .ref 80, .int (434) 0, .int (32) 0, .str (Str.ofString "/claim/cut.py") 435], #[]⟩
noncomputable def o82 : Obj := fnO (stAt 10) (Str.ofString "_index") (.none) (.none) (.none) (.str (Str.ofString "io") 419) (.ref 81) (.none)
noncomputable def o108 : Obj := ⟨.type "code", none, .fields #[.str (Str.ofString "__new__") 473, .str (Str.ofString "IOBase.__new__") 474, .str (Str.ofString "/claim/cut.py") 475, .int (44) 0, .int (1) 0, .int (1) 0, .int (0) 0, .int (15) 0, .ref 103, .bool true, .int (318) 0, .ref 104, .none, .ref 105, .ref 106, .ref 107, .int (479) 0, .int (44) 0, .str (Str.ofString "/claim/cut.py") 480], #[]⟩
noncomputable def o109 : Obj := fnO (mAt 12 1) (Str.ofString "IOBase.__new__") (.none) (.none) (.none) (.str (Str.ofString "io") 419) (.ref 108) (.none)
noncomputable def o111 (P : Params) : Obj := ⟨.type "dict", none, .dict #[en P (Str.ofString "__module__") 466 (.str (Str.ofString "io") 471), en P (Str.ofString "__firstlineno__") 470 (.int (41) 469), en P (Str.ofString "__new__") 481 (.ref 113), en P (Str.ofString "__static_attributes__") 482 (.ref 110), en P (Str.ofString "__dict__") 485 (.ref 114), en P (Str.ofString "__weakref__") 487 (.ref 115), en P (Str.ofString "__doc__") 488 (.none)] 4, #[]⟩
noncomputable def o112 : Obj := ⟨.type "type", none, .cls ⟨(Str.ofString "IOBase"), [.type "object"], [.ref 112, .type "object"], 111, (Str.ofString "IOBase"), true, [], [.ref 127, .ref 139], false, none, false⟩, #[none, none, some (.str (Str.ofString "IOBase") 459), some (.str (Str.ofString "IOBase") 467), some (.none), some (.bool true)]⟩
noncomputable def o113 : Obj := ⟨.type "staticmethod", none, .fields #[.ref 109], #[]⟩
noncomputable def o138 (P : Params) : Obj := ⟨.type "dict", none, .dict #[en P (Str.ofString "__module__") 516 (.str (Str.ofString "io") 521), en P (Str.ofString "__firstlineno__") 520 (.int (50) 519), en P (Str.ofString "__static_attributes__") 523 (.ref 137), en P (Str.ofString "__doc__") 524 (.none)] 2, #[]⟩
noncomputable def o139 : Obj := ⟨.type "type", none, .cls ⟨(Str.ofString "TextIOBase"), [.ref 112], [.ref 139, .ref 112, .type "object"], 138, (Str.ofString "TextIOBase"), true, [], [.ref 616], false, none, false⟩, #[some (.ref 130), none, some (.str (Str.ofString "TextIOBase") 509), some (.str (Str.ofString "TextIOBase") 517), some (.none), some (.bool true)]⟩
noncomputable def o369 : Obj := ⟨.type "type", none, .cls ⟨(Str.ofString "BytesIO"), [.ref 127], [.ref 369, .ref 127, .ref 112, .type "object"], 368, (Str.ofString "BytesIO"), true, [], [], false, none, false⟩, #[some (.ref 142), none, some (.str (Str.ofString "BytesIO") 527), some (.str (Str.ofString "BytesIO") 535), some (.none), some (.bool true)]⟩
noncomputable def o379 : Obj := ⟨.type "tuple", none, .seq #[.str (Str.ofString "") 803, .str (Str.ofString "\n") 804] 0, #[]⟩
noncomputable def o385 : Obj := ⟨.type "code", none, .fields #[.str (Str.ofString "__init__") 805, .str (Str.ofString "StringIO.__init__") 806, .str (Str.ofString "/claim/cut.py") 807, .int (225) 0, .int (3) 0, .int (0) 0, .int (0) 0, .int (3) 0, .ref 380, .bool true, .int (318) 0, .ref 381, .none, .ref 382, .ref 383, .ref 384, .int (811) 0, .int (225) 0, .str (Str.ofString "/claim/cut.py") 812], #[]⟩
noncomputable def o386 : Obj := fnO (mAt 16 1) (Str.ofString "StringIO.__init__") (.ref 379) (.none) (.none) (.str (Str.ofString "io") 419) (.ref 385) (.none)
noncomputable def o392 : Obj := ⟨.type "code", none, .fields #[.str (Str.ofString "__translated") 814, .str (Str.ofString "StringIO.__translated") 815, .str (Str.ofString "/claim/cut.py") 816, .int (238) 0, .int (2) 0, .int (0) 0, .int (0) 0, .int (3) 0, .ref 387, .bool true, .int (318) 0, .ref 388, .none, .ref 389, .ref 390, .ref 391, .int (820) 0, .int (238) 0, .str (Str.ofString "/claim/cut.py") 821], #[]⟩
noncomputable def o393 : Obj := fnO (mAt 16 2) (Str.ofString "StringIO.__translated") (.none) (.none) (.none) (.str (Str.ofString "io") 419) (.ref 392) (.none)
noncomputable def o399 : Obj := ⟨.type "code", none, .fields #[.str (Str.ofString "__check") 823, .str (Str.ofString "StringIO.__check") 824, .str (Str.ofString "/claim/cut.py") 825, .int (246) 0, .int (1) 0, .int (0) 0, .int (0) 0, .int (3) 0, .ref 394, .bool true, .int (318) 0, .ref 395, .none, .ref 396, .ref 397, .ref 398, .int (827) 0, .int (246) 0, .str (Str.ofString "/claim/cut.py") 828], #[]⟩
noncomputable def o400 : Obj := fnO (mAt 16 3) (Str.ofString "StringIO.__check") (.none) (.none) (.none) (.str (Str.ofString "io") 419) (.ref 399) (.none)
noncomputable def o555 : Obj := ⟨.type "tuple", none, .seq #[.int (-1) 996] 0, #[]⟩
noncomputable def o561 : Obj := ⟨.type "code", none, .fields #[.str (Str.ofString "read") 997, .str (Str.ofString "StringIO.read") 998, .str (Str.ofString "/claim/cut.py") 999, .int (368) 0, .int (2) 0, .int (2) 0, .int (0) 0, .int (3) 0, .ref 556, .bool true, .int (318) 0, .ref 557, .none, .ref 558, .ref 559, .ref 560, .int (1004) 0, .int (368) 0, .str (Str.ofString "/claim/cut.py") 1005], #[]⟩
noncomputable def o562 : Obj := fnO (mAt 16 25) (Str.ofString "StringIO.read") (.ref 555) (.none) (.none) (.str (Str.ofString "io") 419) (.ref 561) (.none)
noncomputable def o615 (P : Params) : Obj := ⟨.type "dict", none, .dict #[en P (Str.ofString "__module__") 796 (.str (Str.ofString "_io") 801), en P (Str.ofString "__firstlineno__") 800 (.int (222) 799), en P (Str.ofString "__init__") 813 (.ref 386), en P (Str.ofString "_StringIO__translated") 822 (.ref 393), en P (Str.ofString "_StringIO__check") 829 (.ref 400), en P (Str.ofString "_StringIO__check_dot") 836 (.ref 407), en P (Str.ofString "_StringIO__line") 851 (.ref 414), en P (Str.ofString "closed") 859 (.ref 422), en P (Str.ofString "line_buffering") 867 (.ref 430), en P (Str.ofString "newlines") 875 (.ref 438), en P (Str.ofString "encoding") 883 (.ref 446), en P (Str.ofString "errors") 891 (.ref 454), en P (Str.ofString "close") 898 (.ref 461), en P (Str.ofString "__enter__") 905 (.ref 468), en P (Str.ofString "__exit__") 913 (.ref 475), en P (Str.ofString "readable") 920 (.ref 482), en P (Str.ofString "writable") 927 (.ref 489), en P (Str.ofString "seekable") 934 (.ref 496), en P (Str.ofString "isatty") 941 (.ref 503), en P (Str.ofString "flush") 948 (.ref 510), en P (Str.ofString "fileno") 955 (.ref 517), en P (Str.ofString "detach") 962 (.ref 524), en P (Str.ofString "getvalue") 969 (.ref 531), en P (Str.ofString "tell") 976 (.ref 538), en P (Str.ofString "seek") 986 (.ref 546), en P (Str.ofString "truncate") 994 (.ref 554), en P (Str.ofString "read") 1006 (.ref 562), en P (Str.ofString "readline") 1016 (.ref 570), en P (Str.ofString "readlines") 1026 (.ref 578), en P (Str.ofString "__iter__") 1033 (.ref 585), en P (Str.ofString "__next__") 1041 (.ref 592), en P (Str.ofString "write") 1053 (.ref 599), en P (Str.ofString "writelines") 1061 (.ref 606), en P (Str.ofString "__repr__") 1068 (.ref 613), en P (Str.ofString "__static_attributes__") 1072 (.ref 614), en P (Str.ofString "__doc__") 1073 (.none)] 2, #[]⟩
noncomputable def o616 : Obj := ⟨.type "type", none, .cls ⟨(Str.ofString "StringIO"), [.ref 139], [.ref 616, .ref 139, .ref 112, .type "object"], 615, (Str.ofString "StringIO"), true, [], [], false, none, false⟩, #[some (.ref 372), none, some (.str (Str.ofString "StringIO") 789), some (.str (Str.ofString "StringIO") 797), some (.none), some (.bool true)]⟩
noncomputable def o668 : Obj := ⟨.type "tuple", none, .seq #[.none, .none, .bool false, .bool false] 0, #[]⟩
noncomputable def o674 : Obj := ⟨.type "code", none, .fields #[.str (Str.ofString "__init__") 1149, .str (Str.ofString "shlex.__init__") 1150, .str (Str.ofString "/claim/cut.py") 1151, .int (494) 0, .int (5) 0, .int (0) 0, .int (0) 0, .int (3) 0, .ref 669, .bool true, .int (318) 0, .ref 670, .none, .ref 671, .ref 672, .ref 673, .int (1158) 0, .int (494) 0, .str (Str.ofString "/claim/cut.py") 1159], #[]⟩
noncomputable def o675 : Obj := fnO (mAt 26 0) (Str.ofString "shlex.__init__") (.ref 668) (.none) (.none) (.str (Str.ofString "cpy313.shlex") 1135) (.ref 674) (.none)
noncomputable def o681 : Obj := ⟨.type "code", none, .fields #[.str (Str.ofString "punctuation_chars") 1161, .str (Str.ofString "shlex.punctuation_chars") 1162, .str (Str.ofString "/claim/cut.py") 1163, .int (535) 0, .int (1) 0, .int (0) 0, .int (0) 0, .int (3) 0, .ref 676, .bool true, .int (318) 0, .ref 677, .none, .ref 678, .ref 679, .ref 680, .int (1165) 0, .int (535) 0, .str (Str.ofString "/claim/cut.py") 1166], #[]⟩
noncomputable def o682 : Obj := fnO (mAt 26 1) (Str.ofString "shlex.punctuation_chars") (.none) (.none) (.none) (.str (Str.ofString "cpy313.shlex") 1135) (.ref 681) (.none)
noncomputable def o683 : Obj := ⟨.type "property", none, .fields #[.ref 682, .none, .none, .none, .str (Str.ofString "punctuation_chars") 1168, .bool false], #[]⟩
noncomputable def o711 : Obj := ⟨.type "code", none, .fields #[.str (Str.ofString "get_token") 1193, .str (Str.ofString "shlex.get_token") 1194, .str (Str.ofString "/claim/cut.py") 1195, .int (562) 0, .int (1) 0, .int (0) 0, .int (0) 0, .int (3) 0, .ref 706, .bool true, .int (318) 0, .ref 707, .none, .ref 708, .ref 709, .ref 710, .int (1202) 0, .int (562) 0, .str (Str.ofString "/claim/cut.py") 1203], #[]⟩
noncomputable def o712 : Obj := fnO (mAt 26 5) (Str.ofString "shlex.get_token") (.none) (.none) (.none) (.str (Str.ofString "cpy313.shlex") 1135) (.ref 711) (.none)
noncomputable def o718 : Obj := ⟨.type "code", none, .fields #[.str (Str.ofString "read_token") 1205, .str (Str.ofString "shlex.read_token") 1206, .str (Str.ofString "/claim/cut.py") 1207, .int (589) 0, .int (1) 0, .int (0) 0, .int (0) 0, .int (3) 0, .ref 713, .bool true, .int (318) 0, .ref 714, .none, .ref 715, .ref 716, .ref 717, .int (1213) 0, .int (589) 0, .str (Str.ofString "/claim/cut.py") 1214], #[]⟩
noncomputable def o719 : Obj := fnO (mAt 26 6) (Str.ofString "shlex.read_token") (.none) (.none) (.none) (.str (Str.ofString "cpy313.shlex") 1135) (.ref 718) (.none)
noncomputable def o740 : Obj := ⟨.type "code", none, .fields #[.str (Str.ofString "__iter__") 1233, .str (Str.ofString "shlex.__iter__") 1234, .str (Str.ofString "/claim/cut.py") 1235, .int (736) 0, .int (1) 0, .int (0) 0, .int (0) 0, .int (3) 0, .ref 735, .bool true, .int (318) 0, .ref 736, .none, .ref 737, .ref 738, .ref 739, .int (1237) 0, .int (736) 0, .str (Str.ofString "/claim/cut.py") 1238], #[]⟩
noncomputable def o741 : Obj := fnO (mAt 26 9) (Str.ofString "shlex.__iter__") (.none) (.none) (.none) (.str (Str.ofString "cpy313.shlex") 1135) (.ref 740) (.none)
noncomputable def o747 : Obj := ⟨.type "code", none, .fields #[.str (Str.ofString "__next__") 1240, .str (Str.ofString "shlex.__next__") 1241, .str (Str.ofString "/claim/cut.py") 1242, .int (739) 0, .int (1) 0, .int (0) 0, .int (0) 0, .int (3) 0, .ref 742, .bool true, .int (318) 0, .ref 743, .none, .ref 744, .ref 745, .ref 746, .int (1245) 0, .int (739) 0, .str (Str.ofString "/claim/cut.py") 1246], #[]⟩
noncomputable def o748 : Obj := fnO (mAt 26 10) (Str.ofString "shlex.__next__") (.none) (.none) (.none) (.str (Str.ofString "cpy313.shlex") 1135) (.ref 747) (.none)
noncomputable def o750 (P : Params) : Obj := ⟨.type "dict", none, .dict #[en P (Str.ofString "__module__") 1144 (.str (Str.ofString "cpy313.shlex") 1135), en P (Str.ofString "__firstlineno__") 1148 (.int (492) 1147), en P (Str.ofString "__init__") 1160 (.ref 675), en P (Str.ofString "punctuation_chars") 1168 (.ref 683), en P (Str.ofString "push_token") 1176 (.ref 690), en P (Str.ofString "push_source") 1185 (.ref 698), en P (Str.ofString "pop_source") 1192 (.ref 705), en P (Str.ofString "get_token") 1204 (.ref 712), en P (Str.ofString "read_token") 1215 (.ref 719), en P (Str.ofString "sourcehook") 1223 (.ref 726), en P (Str.ofString "error_leader") 1232 (.ref 734), en P (Str.ofString "__iter__") 1239 (.ref 741), en P (Str.ofString "__next__") 1247 (.ref 748), en P (Str.ofString "__static_attributes__") 1268 (.ref 749), en P (Str.ofString "__dict__") 1270 (.ref 752), en P (Str.ofString "__weakref__") 1272 (.ref 753), en P (Str.ofString "__doc__") 1273 (.none)] 4, #[]⟩
noncomputable def o751 : Obj := ⟨.type "type", none, .cls ⟨(Str.ofString "shlex"), [.type "object"], [.ref 751, .type "object"], 750, (Str.ofString "shlex"), true, [], [], false, none, false⟩, #[none, none, some (.str (Str.ofString "shlex") 1137), some (.str (Str.ofString "shlex") 1145), some (.builtin "object.__new__"), some (.bool true)]⟩
noncomputable def o756 : Obj := ⟨.type "tuple", none, .seq #[.bool false, .bool true] 0, #[]⟩
noncomputable def o762 : Obj := ⟨.type "code", none, .fields #[.str (Str.ofString "split") 1276, .str (Str.ofString "split") 1277, .str (Str.ofString "/claim/cut.py") 1278, .int (744) 0, .int (3) 0, .int (0) 0, .int (0) 0, .int (3) 0, .ref 757, .bool true, .int (318) 0, .ref 758, .none, .ref 759, .ref 760, .ref 761, .int (1283) 0, .int (744) 0, .str (Str.ofString "/claim/cut.py") 1284], #[]⟩
noncomputable def o763 : Obj := fnO (stAt 27) (Str.ofString "split") (.ref 756) (.none) (.none) (.str (Str.ofString "cpy313.shlex") 1135) (.ref 762) (.none)
noncomputable def o765 : Obj := ⟨.none, none, .fields #[], #[]⟩
noncomputable def o769 : Obj := ⟨.type "code", none, .fields #[.str (Str.ofString "join") 1286, .str (Str.ofString "join") 1287, .str (Str.ofString "/claim/cut.py") 1288, .int (752) 0, .int (1) 0, .int (0) 0, .int (0) 0, .int (3) 0, .ref 764, .bool true, .int (318) 0, .ref 765, .none, .ref 766, .ref 767, .ref 768, .int (1290) 0, .int (752) 0, .str (Str.ofString "/claim/cut.py") 1291], #[]⟩
noncomputable def o770 : Obj := fnO (stAt 28) (Str.ofString "join") (.none) (.none) (.none) (.str (Str.ofString "cpy313.shlex") 1135) (.ref 769) (.none)
noncomputable def o771 : Obj := ⟨.type "builtin_function_or_method", none, .fields #[.builtin "re.Pattern.search", .ref 68], #[]⟩
noncomputable def o777 : Obj := ⟨.type "code", none, .fields #[.str (Str.ofString "quote") 1296, .str (Str.ofString "quote") 1297, .str (Str.ofString "/claim/cut.py") 1298, .int (756) 0, .int (1) 0, .int (0) 0, .int (0) 0, .int (3) 0, .ref 772, .bool true, .int (318) 0, .ref 773, .none, .ref 774, .ref 775, .ref 776, .int (1300) 0, .int (756) 0, .str (Str.ofString "/claim/cut.py") 1301], #[]⟩
noncomputable def o778 : Obj := fnO (stAt 31) (Str.ofString "quote") (.none) (.none) (.none) (.str (Str.ofString "cpy313.shlex") 1135) (.ref 777) (.none)
noncomputable def o784 : Obj := ⟨.type "code", none, .fields #[.str (Str.ofString "S_IMODE") 1305, .str (Str.ofString "S_IMODE") 1306, .str (Str.ofString "/claim/cut.py") 1307, .int (763) 0, .int (1) 0, .int (0) 0, .int (0) 0, .int (3) 0, .ref 779, .bool true, .int (318) 0, .ref 780, .none, .ref 781, .ref 782, .ref 783, .int (1309) 0, .int (763) 0, .str (Str.ofString "/claim/cut.py") 1310], #[]⟩
noncomputable def o785 : Obj := fnO (stAt 33) (Str.ofString "S_IMODE") (.none) (.none) (.none) (.str (Str.ofString "cpy313.stat") 1303) (.ref 784) (.none)
noncomputable def o791 : Obj := ⟨.type "code", none, .fields #[.str (Str.ofString "S_IFMT") 1312, .str (Str.ofString "S_IFMT") 1313, .str (Str.ofString "/claim/cut.py") 1314, .int (765) 0, .int (1) 0, .int (0) 0, .int (0) 0, .int (3) 0, .ref 786, .bool true, .int (318) 0, .ref 787, .none, .ref 788, .ref 789, .ref 790, .int (1316) 0, .int (765) 0, .str (Str.ofString "/claim/cut.py") 1317], #[]⟩
noncomputable def o792 : Obj := fnO (stAt 34) (Str.ofString "S_IFMT") (.none) (.none) (.none) (.str (Str.ofString "cpy313.stat") 1303) (.ref 791) (.none)
noncomputable def o793 : Obj := ⟨.type "tuple", none, .seq #[.int (40960) 1329, .str (Str.ofString "l") 1357] 0, #[]⟩
noncomputable def o794 : Obj := ⟨.type "tuple", none, .seq #[.int (49152) 1331, .str (Str.ofString "s") 1358] 0, #[]⟩
noncomputable def o795 : Obj := ⟨.type "tuple", none, .seq #[.int (32768) 1325, .str (Str.ofString "-") 1359] 0, #[]⟩
noncomputable def o796 : Obj := ⟨.type "tuple", none, .seq #[.int (24576) 1323, .str (Str.ofString "b") 1360] 0, #[]⟩
noncomputable def o797 : Obj := ⟨.type "tuple", none, .seq #[.int (16384) 1319, .str (Str.ofString "d") 1361] 0, #[]⟩
noncomputable def o798 : Obj := ⟨.type "tuple", none, .seq #[.int (8192) 1321, .str (Str.ofString "c") 1362] 0, #[]⟩
noncomputable def o799 : Obj := ⟨.type "tuple", none, .seq #[.int (4096) 1327, .str (Str.ofString "p") 1363] 0, #[]⟩
noncomputable def o800 : Obj := ⟨.type "tuple", none, .seq #[.ref 793, .ref 794, .ref 795, .ref 796, .ref 797, .ref 798, .ref 799] 0, #[]⟩
noncomputable def o801 : Obj := ⟨.type "tuple", none, .seq #[.int (256) 1339, .str (Str.ofString "r") 1364] 0, #[]⟩
noncomputable def o802 : Obj := ⟨.type "tuple", none, .seq #[.ref 801] 0, #[]⟩
noncomputable def o803 : Obj := ⟨.type "tuple", none, .seq #[.int (128) 1341, .str (Str.ofString "w") 1365] 0, #[]⟩
noncomputable def o804 : Obj := ⟨.type "tuple", none, .seq #[.ref 803] 0, #[]⟩
noncomputable def o805 : Obj := ⟨.type "tuple", none, .seq #[.int (2112) 1366, .str (Str.ofString "s") 1367] 0, #[]⟩
noncomputable def o806 : Obj := ⟨.type "tuple", none, .seq #[.int (2048) 1333, .str (Str.ofString "S") 1368] 0, #[]⟩
noncomputable def o807 : Obj := ⟨.type "tuple", none, .seq #[.int (64) 1343, .str (Str.ofString "x") 1369] 0, #[]⟩
noncomputable def o808 : Obj := ⟨.type "tuple", none, .seq #[.ref 805, .ref 806, .ref 807] 0, #[]⟩
noncomputable def o809 : Obj := ⟨.type "tuple", none, .seq #[.int (32) 1345, .str (Str.ofString "r") 1370] 0, #[]⟩
noncomputable def o810 : Obj := ⟨.type "tuple", none, .seq #[.ref 809] 0, #[]⟩
noncomputable def o811 : Obj := ⟨.type "tuple", none, .seq #[.int (16) 1347, .str (Str.ofString "w") 1371] 0, #[]⟩
noncomputable def o812 : Obj := ⟨.type "tuple", none, .seq #[.ref 811] 0, #[]⟩
noncomputable def o813 : Obj := ⟨.type "tuple", none, .seq #[.int (1032) 1372, .str (Str.ofString "s") 1373] 0, #[]⟩
noncomputable def o814 : Obj := ⟨.type "tuple", none, .seq #[.int (1024) 1335, .str (Str.ofString "S") 1374] 0, #[]⟩
noncomputable def o815 : Obj := ⟨.type "tuple", none, .seq #[.int (8) 1349, .str (Str.ofString "x") 1375] 0, #[]⟩
noncomputable def o816 : Obj := ⟨.type "tuple", none, .seq #[.ref 813, .ref 814, .ref 815] 0, #[]⟩
noncomputable def o817 : Obj := ⟨.type "tuple", none, .seq #[.int (4) 1351, .str (Str.ofString "r") 1376] 0, #[]⟩
noncomputable def o818 : Obj := ⟨.type "tuple", none, .seq #[.ref 817] 0, #[]⟩
noncomputable def o819 : Obj := ⟨.type "tuple", none, .seq #[.int (2) 1353, .str (Str.ofString "w") 1377] 0, #[]⟩
noncomputable def o820 : Obj := ⟨.type "tuple", none, .seq #[.ref 819] 0, #[]⟩
noncomputable def o821 : Obj := ⟨.type "tuple", none, .seq #[.int (513) 1378, .str (Str.ofString "t") 1379] 0, #[]⟩
noncomputable def o822 : Obj := ⟨.type "tuple", none, .seq #[.int (512) 1337, .str (Str.ofString "T") 1380] 0, #[]⟩
noncomputable def o823 : Obj := ⟨.type "tuple", none, .seq #[.int (1) 1355, .str (Str.ofString "x") 1381] 0, #[]⟩
noncomputable def o824 : Obj := ⟨.type "tuple", none, .seq #[.ref 821, .ref 822, .ref 823] 0, #[]⟩
noncomputable def o825 : Obj := ⟨.type "tuple", none, .seq #[.ref 800, .ref 802, .ref 804, .ref 808, .ref 810, .ref 812, .ref 816, .ref 818, .ref 820, .ref 824] 0, #[]⟩
noncomputable def o831 : Obj := ⟨.type "code", none, .fields #[.str (Str.ofString "filemode") 1383, .str (Str.ofString "filemode") 1384, .str (Str.ofString "/claim/cut.py") 1385, .int (787) 0, .int (1) 0, .int (0) 0, .int (0) 0, .int (3) 0, .ref 826, .bool true, .int (318) 0, .ref 827, .none, .ref 828, .ref 829, .ref 830, .int (1392) 0, .int (787) 0, .str (Str.ofString "/claim/cut.py") 1393], #[]⟩
noncomputable def o832 : Obj := fnO (stAt 55) (Str.ofString "filemode") (.none) (.none) (.none) (.str (Str.ofString "cpy313.stat") 1303) (.ref 831) (.none)
noncomputable def o838 : Obj := ⟨.type "code", none, .fields #[.str (Str.ofString "_law_zones") 1397, .str (Str.ofString "_law_zones") 1398, .str (Str.ofString "/claim/cut.py") 1399, .int (805) 0, .int (0) 0, .int (0) 0, .int (0) 0, .int (3) 0, .ref 833, .bool true, .int (318) 0, .ref 834, .none, .ref 835, .ref 836, .ref 837, .int (1400) 0, .int (805) 0, .str (Str.ofString "/claim/cut.py") 1401], #[]⟩
noncomputable def o839 : Obj := fnO (stAt 57) (Str.ofString "_law_zones") (.none) (.none) (.none) (.str (Str.ofString "law_oc0310_01") 1395) (.ref 838) (.none)
noncomputable def o845 : Obj := ⟨.type "code", none, .fields #[.str (Str.ofString "_law_hosts") 1403, .str (Str.ofString "_law_hosts") 1404, .str (Str.ofString "/claim/cut.py") 1405, .int (807) 0, .int (0) 0, .int (0) 0, .int (0) 0, .int (3) 0, .ref 840, .bool true, .int (318) 0, .ref 841, .none, .ref 842, .ref 843, .ref 844, .int (1406) 0, .int (807) 0, .str (Str.ofString "/claim/cut.py") 1407], #[]⟩
noncomputable def o846 : Obj := fnO (stAt 58) (Str.ofString "_law_hosts") (.none) (.none) (.none) (.str (Str.ofString "law_oc0310_01") 1395) (.ref 845) (.none)
noncomputable def o852 : Obj := ⟨.type "code", none, .fields #[.str (Str.ofString "_law_words") 1409, .str (Str.ofString "_law_words") 1410, .str (Str.ofString "/claim/cut.py") 1411, .int (809) 0, .int (1) 0, .int (0) 0, .int (0) 0, .int (3) 0, .ref 847, .bool true, .int (318) 0, .ref 848, .none, .ref 849, .ref 850, .ref 851, .int (1421) 0, .int (809) 0, .str (Str.ofString "/claim/cut.py") 1422], #[]⟩
noncomputable def o853 : Obj := fnO (stAt 59) (Str.ofString "_law_words") (.none) (.none) (.none) (.str (Str.ofString "law_oc0310_01") 1395) (.ref 852) (.none)
noncomputable def o859 : Obj := ⟨.type "code", none, .fields #[.str (Str.ofString "_law_read") 1424, .str (Str.ofString "_law_read") 1425, .str (Str.ofString "/claim/cut.py") 1426, .int (818) 0, .int (1) 0, .int (0) 0, .int (0) 0, .int (3) 0, .ref 854, .bool true, .int (318) 0, .ref 855, .none, .ref 856, .ref 857, .ref 858, .int (1432) 0, .int (818) 0, .str (Str.ofString "/claim/cut.py") 1433], #[]⟩
noncomputable def o860 : Obj := fnO (stAt 60) (Str.ofString "_law_read") (.none) (.none) (.none) (.str (Str.ofString "law_oc0310_01") 1395) (.ref 859) (.none)
noncomputable def o866 : Obj := ⟨.type "code", none, .fields #[.str (Str.ofString "_law_led") 1435, .str (Str.ofString "_law_led") 1436, .str (Str.ofString "/claim/cut.py") 1437, .int (826) 0, .int (3) 0, .int (0) 0, .int (0) 0, .int (3) 0, .ref 861, .bool true, .int (318) 0, .ref 862, .none, .ref 863, .ref 864, .ref 865, .int (1445) 0, .int (826) 0, .str (Str.ofString "/claim/cut.py") 1446], #[]⟩
noncomputable def o867 : Obj := fnO (stAt 61) (Str.ofString "_law_led") (.none) (.none) (.none) (.str (Str.ofString "law_oc0310_01") 1395) (.ref 866) (.none)
noncomputable def o871 : Obj := ⟨.type "code", none, .fields #[.str (Str.ofString "_law_short") 1448, .str (Str.ofString "_law_short") 1449, .str (Str.ofString "/claim/cut.py") 1450, .int (835) 0, .int (1) 0, .int (0) 0, .int (0) 0, .int (3) 0, .ref 868, .bool true, .int (318) 0, .ref 869, .none, .none, .none, .ref 870, .int (1451) 0, .int (835) 0, .str (Str.ofString "/claim/cut.py") 1452], #[]⟩
noncomputable def o872 : Obj := fnO (stAt 62) (Str.ofString "_law_short") (.none) (.none) (.none) (.str (Str.ofString "law_oc0310_01") 1395) (.ref 871) (.none)
noncomputable def o876 : Obj := ⟨.type "code", none, .fields #[.str (Str.ofString "_law_holds") 1454, .str (Str.ofString "_law_holds") 1455, .str (Str.ofString "/claim/cut.py") 1456, .int (845) 0, .int (2) 0, .int (0) 0, .int (0) 0, .int (3) 0, .ref 873, .bool true, .int (318) 0, .ref 874, .none, .none, .none, .ref 875, .int (1457) 0, .int (845) 0, .str (Str.ofString "/claim/cut.py") 1458], #[]⟩
noncomputable def o877 : Obj := fnO (stAt 63) (Str.ofString "_law_holds") (.none) (.none) (.none) (.str (Str.ofString "law_oc0310_01") 1395) (.ref 876) (.none)
noncomputable def o881 : Obj := ⟨.type "code", none, .fields #[.str (Str.ofString "_law_listing") 1460, .str (Str.ofString "_law_listing") 1461, .str (Str.ofString "/claim/cut.py") 1462, .int (852) 0, .int (3) 0, .int (0) 0, .int (0) 0, .int (3) 0, .ref 878, .bool true, .int (318) 0, .ref 879, .none, .none, .none, .ref 880, .int (1463) 0, .int (852) 0, .str (Str.ofString "/claim/cut.py") 1464], #[]⟩
noncomputable def o882 : Obj := fnO (stAt 64) (Str.ofString "_law_listing") (.none) (.none) (.none) (.str (Str.ofString "law_oc0310_01") 1395) (.ref 881) (.none)
noncomputable def o886 : Obj := ⟨.type "code", none, .fields #[.str (Str.ofString "law") 1466, .str (Str.ofString "law") 1467, .str (Str.ofString "/claim/cut.py") 1468, .int (870) 0, .int (1) 0, .int (0) 0, .int (0) 0, .int (3) 0, .ref 883, .bool true, .int (318) 0, .ref 884, .none, .none, .none, .ref 885, .int (1469) 0, .int (870) 0, .str (Str.ofString "/claim/cut.py") 1470], #[]⟩
noncomputable def o887 : Obj := fnO (stAt 65) (Str.ofString "law") (.none) (.none) (.none) (.str (Str.ofString "law_oc0310_01") 1395) (.ref 886) (.none)
noncomputable def K (P : Params) : Frag := [(48, o48), (49, o49), (55, o55), (56, o56), (62, o62), (63, o63), (67, o67), (68, o68), (81, o81), (82, o82), (108, o108), (109, o109), (111, o111 P), (112, o112), (113, o113), (138, o138 P), (139, o139), (369, o369), (379, o379), (385, o385), (386, o386), (392, o392), (393, o393), (399, o399), (400, o400), (555, o555), (561, o561), (562, o562), (615, o615 P), (616, o616), (668, o668), (674, o674), (675, o675), (681, o681), (682, o682), (683, o683), (711, o711), (712, o712), (718, o718), (719, o719), (740, o740), (741, o741), (747, o747), (748, o748), (750, o750 P), (751, o751), (756, o756), (762, o762), (763, o763), (769, o769), (770, o770), (771, o771), (777, o777), (778, o778), (784, o784), (785, o785), (791, o791), (792, o792), (793, o793), (794, o794), (795, o795), (796, o796), (797, o797), (798, o798), (799, o799), (800, o800), (801, o801), (802, o802), (803, o803), (804, o804), (805, o805), (806, o806), (807, o807), (808, o808), (809, o809), (810, o810), (811, o811), (812, o812), (813, o813), (814, o814), (815, o815), (816, o816), (817, o817), (818, o818), (819, o819), (820, o820), (821, o821), (822, o822), (823, o823), (824, o824), (825, o825), (831, o831), (832, o832), (838, o838), (839, o839), (845, o845), (846, o846), (852, o852), (853, o853), (859, o859), (860, o860), (866, o866), (867, o867), (871, o871), (872, o872), (876, o876), (877, o877), (881, o881), (882, o882), (886, o886), (887, o887)]
noncomputable def gtab : List (Str × Option Value) := [(Str.ofString "deque", some (.type "collections.deque")), (Str.ofString "IPV4_RE", some (.ref 49)), (Str.ofString "liberal_is_HDN", some (.ref 56)), (Str.ofString "user_domain_match", some (.ref 63)), (Str.ofString "_index", some (.ref 82)), (Str.ofString "BytesIO", some (.ref 369)), (Str.ofString "StringIO", some (.ref 616)), (Str.ofString "shlex", some (.ref 751)), (Str.ofString "split", some (.ref 763)), (Str.ofString "join_shlex", some (.ref 770)), (Str.ofString "_find_unsafe", some (.ref 771)), (Str.ofString "quote", some (.ref 778)), (Str.ofString "S_IMODE", some (.ref 785)), (Str.ofString "S_IFMT", some (.ref 792)), (Str.ofString "_filemode_table", some (.ref 825)), (Str.ofString "filemode", some (.ref 832)), (Str.ofString "_law_zones", some (.ref 839)), (Str.ofString "_law_hosts", some (.ref 846)), (Str.ofString "_law_words", some (.ref 853)), (Str.ofString "_law_read", some (.ref 860)), (Str.ofString "_law_led", some (.ref 867)), (Str.ofString "_law_short", some (.ref 872)), (Str.ofString "_law_holds", some (.ref 877)), (Str.ofString "_law_listing", some (.ref 882)), (Str.ofString "law", some (.ref 887)), (Str.ofString "type", none), (Str.ofString "int", none), (Str.ofString "len", none), (Str.ofString "isinstance", none), (Str.ofString "str", none), (Str.ofString "list", none), (Str.ofString "StopIteration", none), (Str.ofString "object", none), (Str.ofString "enumerate", none), (Str.ofString "range", none)]
noncomputable def loose : List Str := [Str.ofString "_sre", Str.ofString "deque", Str.ofString "_wall", Str.ofString "IPV4_RE", Str.ofString "liberal_is_HDN", Str.ofString "user_domain_match", Str.ofString "_twin_re_1", Str.ofString "_whence", Str.ofString "_index", Str.ofString "UnsupportedOperation", Str.ofString "IOBase", Str.ofString "BufferedIOBase", Str.ofString "TextIOBase", Str.ofString "BytesIO", Str.ofString "StringIO", Str.ofString "_kind", Str.ofString "_fspath", Str.ofString "_check_arg_types", Str.ofString "isabs", Str.ofString "join", Str.ofString "join_path", Str.ofString "dirname", Str.ofString "shlex", Str.ofString "split", Str.ofString "join_shlex", Str.ofString "_find_unsafe", Str.ofString "quote", Str.ofString "S_IMODE", Str.ofString "S_IFMT", Str.ofString "S_IFDIR", Str.ofString "S_IFCHR", Str.ofString "S_IFBLK", Str.ofString "S_IFREG", Str.ofString "S_IFIFO", Str.ofString "S_IFLNK", Str.ofString "S_IFSOCK", Str.ofString "S_ISUID", Str.ofString "S_ISGID", Str.ofString "S_ISVTX", Str.ofString "S_IRUSR", Str.ofString "S_IWUSR", Str.ofString "S_IXUSR", Str.ofString "S_IRGRP", Str.ofString "S_IWGRP", Str.ofString "S_IXGRP", Str.ofString "S_IROTH", Str.ofString "S_IWOTH", Str.ofString "S_IXOTH", Str.ofString "_filemode_table", Str.ofString "filemode", Str.ofString "_law_zones", Str.ofString "_law_hosts", Str.ofString "_law_words", Str.ofString "_law_read", Str.ofString "_law_led", Str.ofString "_law_short", Str.ofString "_law_holds", Str.ofString "_law_listing"]
end
-- MHead
section
noncomputable section
noncomputable abbrev qStepT := PySem.W.Fast.tw10156331382660048174
noncomputable abbrev qDenote := PySem.W.Fast.tw11892475500146522536
noncomputable abbrev qTable := PySem.W.Fast.tw14364793385576792824
noncomputable abbrev qFence := PySem.W.Fast.tw14289696077712309145
noncomputable abbrev qStart := PySem.W.Fast.tw1435165496053646825
noncomputable abbrev qAtExit := PySem.W.Fast.tw3805553451399329143
theorem q_step : qStepT (qDenote qTable) = stepT (denote treeTable) := by
  show PySem.W.Fast.tw10156331382660048174 (PySem.W.Fast.tw11892475500146522536 PySem.W.Fast.tw14364793385576792824) = _
  rw [← PySem.W.Fast.te10156331382660048174, ← PySem.W.Fast.te11892475500146522536, ← PySem.W.Fast.te14364793385576792824]
theorem q_exit : qAtExit = Thread.atExitBegin := PySem.W.Fast.te3805553451399329143.symm
theorem q_fence : qFence = fenceModules? := PySem.W.Fast.te14289696077712309145.symm
theorem q_start : qStart = start := PySem.W.Fast.te1435165496053646825.symm

noncomputable def impT (p : Program) (w : World) : Nat → SharedT → Thread → Option SharedT
  | 0, _, _ => none
  | n + 1, s, t => match qAtExit t with
    | some [] => some s
    | some (_ :: _) => none
    | none => match qStepT (qDenote qTable) p w s t with
      | some (s', t') => impT p w n s' t'
      | none => none
theorem impT_of {p : Program} {w : World} : ∀ {n : Nat} {s r : SharedT} {t : Thread}, impT p w n s t = some r → importEnds treeTable p w n s.abs t = some r.abs
  | 0, _, _, _, h => by cases h
  | n + 1, s, r, t, h => by
    unfold impT at h
    unfold importEnds
    rw [q_exit, q_step] at h
    cases he : t.atExitBegin with
    | some x =>
      rw [he] at h
      cases x with
      | nil => cases h; rfl
      | cons a b => cases h
    | none =>
      rw [he] at h
      dsimp only at h ⊢
      cases hs : stepT (denote treeTable) p w s t with
      | none => rw [hs] at h; cases h
      | some x => obtain ⟨s₂, t₂⟩ := x; rw [hs] at h; rw [stepT_spec hs]; exact impT_of h
end
end
-- MWs
section
theorem lo1 : (sreFenced P0.main && ((moduleNames P0.main.body).isEmpty || lookedIntoSs (moduleNames P0.main.body) P0.main.body)) = true := by
  rw [PySem.W.Fast.te11788848310118352699, PySem.W.Fast.te12862048085361865435, PySem.W.Fast.te9807087744658564304]
  kernel_rfl
theorem lo2 : namesResolve P0 = true := by
  rw [PySem.W.Fast.te8377067652309620493]
  kernel_rfl
theorem lo3 : (P0.boundNames.all (fun n => !worldNames.contains n)) = true := by
  rw [PySem.W.Fast.te18344453789297297638, PySem.W.Fast.te14412699480532031325]
  kernel_rfl
theorem lo4a : (importedModules P0.main.body).all cThrough.contains = true := by kernel_rfl
theorem lo4b : readsOut P0 P0.main.body "vars" = false := by
  rw [PySem.W.Fast.te13343964577679436407]
  kernel_rfl
theorem lo4c : readsOut P0 P0.main.body "dir" = false := by
  rw [PySem.W.Fast.te13343964577679436407]
  kernel_rfl
theorem lo4d : readsOut P0 P0.main.body "locals" = false := by
  rw [PySem.W.Fast.te13343964577679436407]
  kernel_rfl
noncomputable def lk0 : Look := { strict := false, foot := none, bare := [] }
theorem roads_app (lk : Look) (b : List Stmt) : ∀ a, noRoadLSs lk (a ++ b) = (noRoadLSs lk a && noRoadLSs lk b)
  | [] => rfl
  | s :: r => by
    show (noRoadLS lk s && noRoadLSs lk (r ++ b)) = ((noRoadLS lk s && noRoadLSs lk r) && noRoadLSs lk b)
    rw [roads_app lk b r, Bool.and_assoc]
theorem roads_cut {l : List Stmt} (n : Nat) (h : noRoadLSs lk0 (l.take n) = true) (k : noRoadLSs lk0 (l.drop n) = true) : noRoadLSs lk0 l = true := by
  rw [← List.take_append_drop n l, roads_app, h, k]
  rfl
theorem lo4r0 : noRoadLSs lk0 (P0.main.body.take 15) = true := by
  rw [PySem.W.Fast.te8326940854005059898]
  kernel_rfl
theorem lo4r1 : noRoadLSs lk0 ((P0.main.body.drop 15).take 1) = true := by
  rw [PySem.W.Fast.te8326940854005059898]
  kernel_rfl
theorem lo4r2 : noRoadLSs lk0 (((P0.main.body.drop 15).drop 1).take 1) = true := by
  rw [PySem.W.Fast.te8326940854005059898]
  kernel_rfl
theorem lo4r3 : noRoadLSs lk0 ((((P0.main.body.drop 15).drop 1).drop 1).take 10) = true := by
  rw [PySem.W.Fast.te8326940854005059898]
  kernel_rfl
theorem lo4r4 : noRoadLSs lk0 ((((P0.main.body.drop 15).drop 1).drop 1).drop 10) = true := by
  rw [PySem.W.Fast.te8326940854005059898]
  kernel_rfl
theorem lo4r : noRoadLSs lk0 P0.main.body = true := roads_cut 15 lo4r0 (roads_cut 1 lo4r1 (roads_cut 1 lo4r2 (roads_cut 10 lo4r3 lo4r4)))
theorem lo4 : noRoadLSs { strict := !(importedModules P0.main.body).all cThrough.contains, foot := none, bare := (["vars", "dir", "locals"] : List Str).filter (readsOut P0 P0.main.body) } P0.main.body = true := by
  have h : (["vars", "dir", "locals"] : List Str).filter (readsOut P0 P0.main.body) = [] := by
    rw [List.filter_cons, lo4b, List.filter_cons, lo4c, List.filter_cons, lo4d]
    rfl
  rw [h, lo4a]
  exact lo4r
theorem lo5 : (namesMeet P0 P0.main.body fun _ n => attrL n) = true := by
  rw [PySem.W.Fast.te17119622794617984870, PySem.W.Fast.te17868728402115742887]
  kernel_rfl
theorem lo : looksOpen P0 = true := by
  unfold looksOpen
  exact look_both (look_both (look_both (look_both lo1 lo2) lo3) lo4) lo5
theorem rw1 : PySem.Challenge.rw_oc0310_01.row.partSaid = true := by
  unfold OpenRow.partSaid
  with_reducible repeat' refine look_both ?_ ?_
  · exact lo
  all_goals first | (rw [PySem.W.Fast.te13582783067957832011]; kernel_rfl) | kernel_rfl
theorem rw2 : PySem.Challenge.rw_oc0310_01.row.wellSaid = true := by
  unfold OpenRow.wellSaid
  refine look_both (look_both rw1 ?_) ?_
  · rw [PySem.W.Fast.te18344453789297297638]; kernel_rfl
  · rw [PySem.W.Fast.te12749700546528644094]; kernel_rfl
theorem ws : PySem.Challenge.rw_oc0310_01.wellSaid = true := by
  unfold OpenLaw.wellSaid
  with_reducible repeat' refine look_both ?_ ?_
  · exact rw2
  · kernel_rfl
  · rw [PySem.W.Fast.te10501279942588096481]; kernel_rfl
  · rw [PySem.W.Fast.te8179353310426384613]; kernel_rfl
  · kernel_rfl
  · kernel_rfl
  · rw [PySem.W.Fast.te8326940854005059898, PySem.W.Fast.te797321630700447069, PySem.W.Fast.te9572597257264208301]; kernel_rfl
  · rw [PySem.W.Fast.te9558739934217749035]; kernel_rfl
  · rw [PySem.W.Fast.te16286561074155671207]; kernel_rfl
  · kernel_rfl
  · rw [PySem.W.Fast.te797321630700447069, PySem.W.Fast.te6984425678791042302, PySem.W.Fast.named_eq]; kernel_rfl
  · kernel_rfl
  · rw [PySem.W.Fast.te6984425678791042302, PySem.W.Fast.te482687673346738481, PySem.W.Fast.te12879404354523853263]; kernel_rfl
  · rw [PySem.W.Fast.te17119622794617984870]; kernel_rfl
  · rw [PySem.W.Fast.te10792542408131684335]; kernel_rfl
  · rw [PySem.W.Fast.te10792542408131684335]; kernel_rfl
  · rw [PySem.W.Fast.te10792542408131684335, PySem.W.Fast.named_eq]; kernel_rfl
  · rw [PySem.W.Fast.te17119622794617984870, PySem.W.Fast.te10792542408131684335]; kernel_rfl
  · rw [PySem.W.Fast.te17119622794617984870]; kernel_rfl
end
-- MSt
section
noncomputable section
noncomputable def fnR (st : Stmt) (qual : Str) : Obj := match st with
  | .FunctionDef name args body _ _ _ scope _ _ _ => ⟨.none, none, .func { name, qualname := qual, params := args, body := .stmts body, scope, globals := 0, closure := [], defaults := .none, kwdefaults := .none }, #[]⟩
  | _ => default
noncomputable def y0v0 (P : Params) : Obj := ⟨.type "dict", none, .dict #[en P (Str.ofString "__name__") 1 (.str (Str.ofString "builtins") 160), en P (Str.ofString "__doc__") 2 (.builtin "builtins.__doc__:str#opaque"), en P (Str.ofString "__package__") 3 (.builtin "builtins.__package__:str#opaque"), en P (Str.ofString "__loader__") 4 (.builtin "builtins.__loader__:shared#opaque"), en P (Str.ofString "__spec__") 5 (.builtin "builtins.__spec__#opaque"), en P (Str.ofString "__build_class__") 6 (.builtin "__build_class__"), en P (Str.ofString "__import__") 7 (.builtin "__import__"), en P (Str.ofString "abs") 8 (.builtin "abs"), en P (Str.ofString "all") 9 (.builtin "all"), en P (Str.ofString "any") 10 (.builtin "any"), en P (Str.ofString "ascii") 11 (.builtin "ascii"), en P (Str.ofString "bin") 12 (.builtin "bin"), en P (Str.ofString "breakpoint") 13 (.builtin "breakpoint"), en P (Str.ofString "callable") 14 (.builtin "callable"), en P (Str.ofString "chr") 15 (.builtin "chr"), en P (Str.ofString "compile") 16 (.builtin "compile"), en P (Str.ofString "delattr") 17 (.builtin "delattr"), en P (Str.ofString "dir") 18 (.builtin "dir"), en P (Str.ofString "divmod") 19 (.builtin "divmod"), en P (Str.ofString "eval") 20 (.builtin "eval"), en P (Str.ofString "exec") 21 (.builtin "exec"), en P (Str.ofString "format") 22 (.builtin "format"), en P (Str.ofString "getattr") 23 (.builtin "getattr"), en P (Str.ofString "globals") 24 (.builtin "globals"), en P (Str.ofString "hasattr") 25 (.builtin "hasattr"), en P (Str.ofString "hash") 26 (.builtin "hash"), en P (Str.ofString "hex") 27 (.builtin "hex"), en P (Str.ofString "id") 28 (.builtin "id"), en P (Str.ofString "input") 29 (.builtin "input"), en P (Str.ofString "isinstance") 30 (.builtin "isinstance"), en P (Str.ofString "issubclass") 31 (.builtin "issubclass"), en P (Str.ofString "iter") 32 (.builtin "iter"), en P (Str.ofString "aiter") 33 (.builtin "aiter"), en P (Str.ofString "len") 34 (.builtin "len"), en P (Str.ofString "locals") 35 (.builtin "locals"), en P (Str.ofString "max") 36 (.builtin "max"), en P (Str.ofString "min") 37 (.builtin "min"), en P (Str.ofString "next") 38 (.builtin "next"), en P (Str.ofString "anext") 39 (.builtin "anext"), en P (Str.ofString "oct") 40 (.builtin "oct"), en P (Str.ofString "ord") 41 (.builtin "ord"), en P (Str.ofString "pow") 42 (.builtin "pow"), en P (Str.ofString "print") 43 (.builtin "print"), en P (Str.ofString "repr") 44 (.builtin "repr"), en P (Str.ofString "round") 45 (.builtin "round"), en P (Str.ofString "setattr") 46 (.builtin "setattr"), en P (Str.ofString "sorted") 47 (.builtin "sorted"), en P (Str.ofString "sum") 48 (.builtin "sum"), en P (Str.ofString "vars") 49 (.builtin "vars"), en P (Str.ofString "None") 50 (.none), en P (Str.ofString "Ellipsis") 51 (.ellipsis), en P (Str.ofString "NotImplemented") 52 (.notImplemented), en P (Str.ofString "False") 53 (.bool false), en P (Str.ofString "True") 54 (.bool true), en P (Str.ofString "bool") 55 (.type "bool"), en P (Str.ofString "memoryview") 56 (.type "memoryview"), en P (Str.ofString "bytearray") 57 (.type "bytearray"), en P (Str.ofString "bytes") 58 (.type "bytes"), en P (Str.ofString "classmethod") 59 (.type "classmethod"), en P (Str.ofString "complex") 60 (.type "complex"), en P (Str.ofString "dict") 61 (.type "dict"), en P (Str.ofString "enumerate") 62 (.type "enumerate"), en P (Str.ofString "filter") 63 (.type "filter"), en P (Str.ofString "float") 64 (.type "float"), en P (Str.ofString "frozenset") 65 (.type "frozenset"), en P (Str.ofString "property") 66 (.type "property"), en P (Str.ofString "int") 67 (.type "int"), en P (Str.ofString "list") 68 (.type "list"), en P (Str.ofString "map") 69 (.type "map"), en P (Str.ofString "object") 70 (.type "object"), en P (Str.ofString "range") 71 (.type "range"), en P (Str.ofString "reversed") 72 (.type "reversed"), en P (Str.ofString "set") 73 (.type "set"), en P (Str.ofString "slice") 74 (.type "slice"), en P (Str.ofString "staticmethod") 75 (.type "staticmethod"), en P (Str.ofString "str") 76 (.type "str"), en P (Str.ofString "super") 77 (.type "super"), en P (Str.ofString "tuple") 78 (.type "tuple"), en P (Str.ofString "type") 79 (.type "type"), en P (Str.ofString "zip") 80 (.type "zip"), en P (Str.ofString "__debug__") 81 (.bool true), en P (Str.ofString "BaseException") 82 (.type "BaseException"), en P (Str.ofString "BaseExceptionGroup") 83 (.type "BaseExceptionGroup"), en P (Str.ofString "Exception") 84 (.type "Exception"), en P (Str.ofString "GeneratorExit") 85 (.type "GeneratorExit"), en P (Str.ofString "KeyboardInterrupt") 86 (.type "KeyboardInterrupt"), en P (Str.ofString "SystemExit") 87 (.type "SystemExit"), en P (Str.ofString "ArithmeticError") 88 (.type "ArithmeticError"), en P (Str.ofString "AssertionError") 89 (.type "AssertionError"), en P (Str.ofString "AttributeError") 90 (.type "AttributeError"), en P (Str.ofString "BufferError") 91 (.type "BufferError"), en P (Str.ofString "EOFError") 92 (.type "EOFError"), en P (Str.ofString "ImportError") 93 (.type "ImportError"), en P (Str.ofString "LookupError") 94 (.type "LookupError"), en P (Str.ofString "MemoryError") 95 (.type "MemoryError"), en P (Str.ofString "NameError") 96 (.type "NameError"), en P (Str.ofString "OSError") 97 (.type "OSError"), en P (Str.ofString "ReferenceError") 98 (.type "ReferenceError"), en P (Str.ofString "RuntimeError") 99 (.type "RuntimeError"), en P (Str.ofString "StopAsyncIteration") 100 (.type "StopAsyncIteration"), en P (Str.ofString "StopIteration") 101 (.type "StopIteration"), en P (Str.ofString "SyntaxError") 102 (.type "SyntaxError"), en P (Str.ofString "SystemError") 103 (.type "SystemError"), en P (Str.ofString "TypeError") 104 (.type "TypeError"), en P (Str.ofString "ValueError") 105 (.type "ValueError"), en P (Str.ofString "Warning") 106 (.type "Warning"), en P (Str.ofString "FloatingPointError") 107 (.type "FloatingPointError"), en P (Str.ofString "OverflowError") 108 (.type "OverflowError"), en P (Str.ofString "ZeroDivisionError") 109 (.type "ZeroDivisionError"), en P (Str.ofString "BytesWarning") 110 (.type "BytesWarning"), en P (Str.ofString "DeprecationWarning") 111 (.type "DeprecationWarning"), en P (Str.ofString "EncodingWarning") 112 (.type "EncodingWarning"), en P (Str.ofString "FutureWarning") 113 (.type "FutureWarning"), en P (Str.ofString "ImportWarning") 114 (.type "ImportWarning"), en P (Str.ofString "PendingDeprecationWarning") 115 (.type "PendingDeprecationWarning"), en P (Str.ofString "ResourceWarning") 116 (.type "ResourceWarning"), en P (Str.ofString "RuntimeWarning") 117 (.type "RuntimeWarning"), en P (Str.ofString "SyntaxWarning") 118 (.type "SyntaxWarning"), en P (Str.ofString "UnicodeWarning") 119 (.type "UnicodeWarning"), en P (Str.ofString "UserWarning") 120 (.type "UserWarning"), en P (Str.ofString "BlockingIOError") 121 (.type "BlockingIOError"), en P (Str.ofString "ChildProcessError") 122 (.type "ChildProcessError"), en P (Str.ofString "ConnectionError") 123 (.type "ConnectionError"), en P (Str.ofString "FileExistsError") 124 (.type "FileExistsError"), en P (Str.ofString "FileNotFoundError") 125 (.type "FileNotFoundError"), en P (Str.ofString "InterruptedError") 126 (.type "InterruptedError"), en P (Str.ofString "IsADirectoryError") 127 (.type "IsADirectoryError"), en P (Str.ofString "NotADirectoryError") 128 (.type "NotADirectoryError"), en P (Str.ofString "PermissionError") 129 (.type "PermissionError"), en P (Str.ofString "ProcessLookupError") 130 (.type "ProcessLookupError"), en P (Str.ofString "TimeoutError") 131 (.type "TimeoutError"), en P (Str.ofString "IndentationError") 132 (.type "IndentationError"), en P (Str.ofString "_IncompleteInputError") 133 (.type "_IncompleteInputError"), en P (Str.ofString "IndexError") 134 (.type "IndexError"), en P (Str.ofString "KeyError") 135 (.type "KeyError"), en P (Str.ofString "ModuleNotFoundError") 136 (.type "ModuleNotFoundError"), en P (Str.ofString "NotImplementedError") 137 (.type "NotImplementedError"), en P (Str.ofString "PythonFinalizationError") 138 (.type "PythonFinalizationError"), en P (Str.ofString "RecursionError") 139 (.type "RecursionError"), en P (Str.ofString "UnboundLocalError") 140 (.type "UnboundLocalError"), en P (Str.ofString "UnicodeError") 141 (.type "UnicodeError"), en P (Str.ofString "BrokenPipeError") 142 (.type "BrokenPipeError"), en P (Str.ofString "ConnectionAbortedError") 143 (.type "ConnectionAbortedError"), en P (Str.ofString "ConnectionRefusedError") 144 (.type "ConnectionRefusedError"), en P (Str.ofString "ConnectionResetError") 145 (.type "ConnectionResetError"), en P (Str.ofString "TabError") 146 (.type "TabError"), en P (Str.ofString "UnicodeDecodeError") 147 (.type "UnicodeDecodeError"), en P (Str.ofString "UnicodeEncodeError") 148 (.type "UnicodeEncodeError"), en P (Str.ofString "UnicodeTranslateError") 149 (.type "UnicodeTranslateError"), en P (Str.ofString "ExceptionGroup") 150 (.type "ExceptionGroup"), en P (Str.ofString "EnvironmentError") 151 (.type "OSError"), en P (Str.ofString "IOError") 152 (.type "OSError"), en P (Str.ofString "open") 153 (.builtin "open"), en P (Str.ofString "quit") 154 (.builtin "builtins.quit#opaque"), en P (Str.ofString "exit") 155 (.builtin "builtins.exit#opaque"), en P (Str.ofString "copyright") 156 (.builtin "builtins.copyright#opaque"), en P (Str.ofString "credits") 157 (.builtin "builtins.credits#opaque"), en P (Str.ofString "license") 158 (.builtin "builtins.license#opaque"), en P (Str.ofString "help") 159 (.builtin "builtins.help#opaque")] 159, #[]⟩
noncomputable def y1v0 (P : Params) : Obj := ⟨.type "dict", none, .dict #[en P (Str.ofString "builtins") 162 (.ref 4), en P (Str.ofString "__main__") 163 (.ref 5), en P (Str.ofString "_sre") 244 (.ref 12), en P (Str.ofString "_collections") 292 (.ref 30)] 4, #[]⟩
noncomputable def y2v0 (P : Params) : Obj := ⟨.none, none, .dict #[en P (Str.mk #[105, 109, 112, 111, 114, 116, 46, 108, 111, 97, 100, 101, 100, 46, 95, 115, 114, 101]) 183 (.bool true), en P (Str.ofString "class._frozen_importlib.BuiltinImporter") 185 (.ref 14), en P (Str.mk #[119, 97, 116, 99, 104, 101, 100, 46, 105, 109, 112, 111, 114, 116]) 206 (.ref 18), en P (Str.ofString "class._frozen_importlib.ModuleSpec") 216 (.ref 22), en P (Str.ofString "sys.modules.booked-epoch") 245 (.int (4) 0), en P (Str.mk #[105, 109, 112, 111, 114, 116, 46, 108, 97, 116, 101, 114, 45, 108, 97, 105, 100, 46, 95, 115, 114, 101]) 270 (.bool true), en P (Str.ofString "watched.library") 272 (.ref 27), en P (Str.ofString "watched.library-objects") 0 (.str (Str.ofString "\x0c\x1e") 0), en P (Str.ofString "watched.library-deep._sre") 273 (.str (Str.ofString "\x04\x00\x00\x0b\x04\x00\x00\x0b\x04\x00\x00\x03\x04\x00\x00\x0b\x08\x04dict\x02") 0), en P (Str.mk #[105, 109, 112, 111, 114, 116, 46, 108, 111, 97, 100, 101, 100, 46, 95, 99, 111, 108, 108, 101, 99, 116, 105, 111, 110, 115]) 280 (.bool true), en P (Str.ofString "sys.modules.landed._collections") 294 (.bool true), en P (Str.mk #[105, 109, 112, 111, 114, 116, 46, 108, 97, 116, 101, 114, 45, 108, 97, 105, 100, 46, 95, 99, 111, 108, 108, 101, 99, 116, 105, 111, 110, 115]) 309 (.bool true), en P (Str.ofString "watched.library-deep._collections") 311 (.str (Str.ofString "\x04\x00\x00\x1d\x04\x00\x00\x1d\x04\x00\x00\x03\x04\x00\x00\x1d\x08\x04dict\x02") 0)] 13, #[]⟩
noncomputable def y3v0 (P : Params) : Obj := ⟨.type "dict", none, .dict #[en P (Str.ofString "__name__") 165 (.str (Str.ofString "__main__") 164), en P (Str.ofString "__doc__") 166 (.none), en P (Str.ofString "__package__") 167 (.none), en P (Str.ofString "__loader__") 168 (.builtin "__main__.__loader__#opaque"), en P (Str.ofString "__spec__") 169 (.none), en P (Str.ofString "__annotations__") 170 (.ref 6), en P (Str.ofString "__builtins__") 171 (.ref 4), en P (Str.ofString "__file__") 173 (.str (Str.ofString "/claim/cut.py") 172), en P (Str.ofString "__cached__") 174 (.none), en P (Str.ofString "_sre") 275 (.ref 12), en P (Str.ofString "deque") 317 (.type "collections.deque")] 11, #[]⟩
noncomputable def y4v0 : Obj := ⟨.type "module", some 0, .plain, #[]⟩
noncomputable def y5v0 : Obj := ⟨.type "module", some 3, .plain, #[]⟩
noncomputable def y6v0 (P : Params) : Obj := ⟨.type "dict", none, .dict #[] 0, #[]⟩
noncomputable def y7v0 : Obj := ⟨.type "tuple", none, .seq #[] 0, #[]⟩
noncomputable def y8v0 : Obj := ⟨.none, none, .fields #[], #[]⟩
noncomputable def y9v0 : Obj := ⟨.type "code", none, .fields #[.str (Str.ofString "<module>") 176, .str (Str.ofString "<module>") 177, .str (Str.ofString "/claim/cut.py") 178, .int (1) 0, .int (0) 0, .int (0) 0, .int (0) 0, .int (0) 0, .ref 7, .bool false, .int (175) 0, .ref 8, .none, .none, .none, .none, .int (179) 0, .int (1) 0, .str (Str.ofString "/claim/cut.py") 180], #[]⟩
noncomputable def y10v0 : Obj := ⟨.type "frame", none, .plain, #[some (.ref 9), some (.ref 3), some (.ref 3), none, some (.str (Str.ofString "__main__") 164), none, some (.ref 0)]⟩
noncomputable def y11v0 (P : Params) : Obj := ⟨.type "dict", none, .dict #[en P (Str.ofString "__name__") 247 (.str (Str.ofString "_sre") 246), en P (Str.ofString "__doc__") 248 (.none), en P (Str.ofString "__package__") 250 (.str (Str.ofString "") 249), en P (Str.ofString "__loader__") 251 (.builtin "off-the-table:_sre.__loader__:shared#opaque"), en P (Str.ofString "__spec__") 252 (.builtin "off-the-table:_sre.__spec__:shared#opaque"), en P (Str.ofString "compile") 253 (.builtin "_sre.compile"), en P (Str.ofString "template") 254 (.builtin "off-the-table:_sre.template:shared#opaque"), en P (Str.ofString "getcodesize") 255 (.builtin "off-the-table:_sre.getcodesize:shared#opaque"), en P (Str.ofString "ascii_iscased") 256 (.builtin "off-the-table:_sre.ascii_iscased:shared#opaque"), en P (Str.ofString "unicode_iscased") 257 (.builtin "off-the-table:_sre.unicode_iscased:shared#opaque"), en P (Str.ofString "ascii_tolower") 258 (.builtin "off-the-table:_sre.ascii_tolower:shared#opaque"), en P (Str.ofString "unicode_tolower") 259 (.builtin "off-the-table:_sre.unicode_tolower:shared#opaque"), en P (Str.ofString "MAGIC") 261 (.int (20230612) 260), en P (Str.ofString "CODESIZE") 263 (.int (4) 262), en P (Str.ofString "MAXREPEAT") 265 (.int (4294967295) 264), en P (Str.ofString "MAXGROUPS") 267 (.int (1073741823) 266), en P (Str.ofString "copyright") 269 (.str (Str.ofString " SRE 2.2.2 Copyright (c) 1997-2002 by Secret Labs AB ") 268)] 17, #[]⟩
noncomputable def y12v0 : Obj := ⟨.type "module", some 11, .plain, #[]⟩
noncomputable def y13v0 (P : Params) : Obj := ⟨.type "dict", none, .dict #[en P (Str.ofString "__module__") 189 (.str (Str.ofString "_frozen_importlib") 186), en P (Str.ofString "__firstlineno__") 190 (.int (971) 187), en P (Str.ofString "__doc__") 191 (.builtin "_frozen_importlib.BuiltinImporter.__doc__:str#opaque"), en P (Str.ofString "_ORIGIN") 192 (.str (Str.ofString "built-in") 188), en P (Str.ofString "find_spec") 193 (.builtin "_frozen_importlib.BuiltinImporter.find_spec#opaque"), en P (Str.ofString "create_module") 194 (.builtin "_frozen_importlib.BuiltinImporter.create_module#opaque"), en P (Str.ofString "exec_module") 195 (.builtin "_frozen_importlib.BuiltinImporter.exec_module#opaque"), en P (Str.ofString "get_code") 196 (.builtin "_frozen_importlib.BuiltinImporter.get_code#opaque"), en P (Str.ofString "get_source") 197 (.builtin "_frozen_importlib.BuiltinImporter.get_source#opaque"), en P (Str.ofString "is_package") 198 (.builtin "_frozen_importlib.BuiltinImporter.is_package#opaque"), en P (Str.ofString "load_module") 199 (.builtin "_frozen_importlib.BuiltinImporter.load_module#opaque"), en P (Str.ofString "__static_attributes__") 200 (.ref 15), en P (Str.ofString "__dict__") 202 (.ref 16), en P (Str.ofString "__weakref__") 204 (.ref 17)] 14, #[]⟩
noncomputable def y14v0 : Obj := ⟨.type "type", none, .cls ⟨(Str.ofString "BuiltinImporter"), [.type "object"], [.ref 14, .type "object"], 13, (Str.ofString "BuiltinImporter"), true, [], [], false, none, false⟩, #[]⟩
noncomputable def y15v0 : Obj := ⟨.type "tuple", none, .seq #[] 0, #[]⟩
noncomputable def y16v0 : Obj := ⟨.type "getset_descriptor", none, .fields #[.str (Str.ofString "__dict__") 201, .ref 14, .builtin "function.__dict__", .builtin "function.__dict__#set"], #[]⟩
noncomputable def y17v0 : Obj := ⟨.type "getset_descriptor", none, .fields #[.str (Str.ofString "__weakref__") 203, .ref 14, .builtin "ExceptionGroup.__weakref__", .none], #[]⟩
noncomputable def y18v0 : Obj := ⟨.none, none, .seq #[.int (13) 0, .str (Str.mk #[6, 189, 10, 95, 95, 109, 111, 100, 117, 108, 101, 95, 95, 6, 186, 17, 95, 102, 114, 111, 122, 101, 110, 95, 105, 109, 112, 111, 114, 116, 108, 105, 98, 6, 190, 15, 95, 95, 102, 105, 114, 115, 116, 108, 105, 110, 101, 110, 111, 95, 95, 4, 187, 0, 971, 6, 191, 7, 95, 95, 100, 111, 99, 95, 95, 9, 52, 95, 102, 114, 111, 122, 101, 110, 95, 105, 109, 112, 111, 114, 116, 108, 105, 98, 46, 66, 117, 105, 108, 116, 105, 110, 73, 109, 112, 111, 114, 116, 101, 114, 46, 95, 95, 100, 111, 99, 95, 95, 58, 115, 116, 114, 35, 111, 112, 97, 113, 117, 101, 6, 192, 7, 95, 79, 82, 73, 71, 73, 78, 6, 188, 8, 98, 117, 105, 108, 116, 45, 105, 110, 6, 193, 9, 102, 105, 110, 100, 95, 115, 112, 101, 99, 9, 50, 95, 102, 114, 111, 122, 101, 110, 95, 105, 109, 112, 111, 114, 116, 108, 105, 98, 46, 66, 117, 105, 108, 116, 105, 110, 73, 109, 112, 111, 114, 116, 101, 114, 46, 102, 105, 110, 100, 95, 115, 112, 101, 99, 35, 111, 112, 97, 113, 117, 101, 6, 194, 13, 99, 114, 101, 97, 116, 101, 95, 109, 111, 100, 117, 108, 101, 9, 54, 95, 102, 114, 111, 122, 101, 110, 95, 105, 109, 112, 111, 114, 116, 108, 105, 98, 46, 66, 117, 105, 108, 116, 105, 110, 73, 109, 112, 111, 114, 116, 101, 114, 46, 99, 114, 101, 97, 116, 101, 95, 109, 111, 100, 117, 108, 101, 35, 111, 112, 97, 113, 117, 101, 6, 195, 11, 101, 120, 101, 99, 95, 109, 111, 100, 117, 108, 101, 9, 52, 95, 102, 114, 111, 122, 101, 110, 95, 105, 109, 112, 111, 114, 116, 108, 105, 98, 46, 66, 117, 105, 108, 116, 105, 110, 73, 109, 112, 111, 114, 116, 101, 114, 46, 101, 120, 101, 99, 95, 109, 111, 100, 117, 108, 101, 35, 111, 112, 97, 113, 117, 101, 6, 196, 8, 103, 101, 116, 95, 99, 111, 100, 101, 9, 49, 95, 102, 114, 111, 122, 101, 110, 95, 105, 109, 112, 111, 114, 116, 108, 105, 98, 46, 66, 117, 105, 108, 116, 105, 110, 73, 109, 112, 111, 114, 116, 101, 114, 46, 103, 101, 116, 95, 99, 111, 100, 101, 35, 111, 112, 97, 113, 117, 101, 6, 197, 10, 103, 101, 116, 95, 115, 111, 117, 114, 99, 101, 9, 51, 95, 102, 114, 111, 122, 101, 110, 95, 105, 109, 112, 111, 114, 116, 108, 105, 98, 46, 66, 117, 105, 108, 116, 105, 110, 73, 109, 112, 111, 114, 116, 101, 114, 46, 103, 101, 116, 95, 115, 111, 117, 114, 99, 101, 35, 111, 112, 97, 113, 117, 101, 6, 198, 10, 105, 115, 95, 112, 97, 99, 107, 97, 103, 101, 9, 51, 95, 102, 114, 111, 122, 101, 110, 95, 105, 109, 112, 111, 114, 116, 108, 105, 98, 46, 66, 117, 105, 108, 116, 105, 110, 73, 109, 112, 111, 114, 116, 101, 114, 46, 105, 115, 95, 112, 97, 99, 107, 97, 103, 101, 35, 111, 112, 97, 113, 117, 101, 6, 199, 11, 108, 111, 97, 100, 95, 109, 111, 100, 117, 108, 101, 9, 52, 95, 102, 114, 111, 122, 101, 110, 95, 105, 109, 112, 111, 114, 116, 108, 105, 98, 46, 66, 117, 105, 108, 116, 105, 110, 73, 109, 112, 111, 114, 116, 101, 114, 46, 108, 111, 97, 100, 95, 109, 111, 100, 117, 108, 101, 35, 111, 112, 97, 113, 117, 101, 6, 200, 21, 95, 95, 115, 116, 97, 116, 105, 99, 95, 97, 116, 116, 114, 105, 98, 117, 116, 101, 115, 95, 95, 4, 0, 0, 15, 6, 202, 8, 95, 95, 100, 105, 99, 116, 95, 95, 4, 0, 0, 16, 6, 204, 11, 95, 95, 119, 101, 97, 107, 114, 101, 102, 95, 95, 4, 0, 0, 17]) 0, .bool true, .bool true, .str (Str.ofString "") 205, .int (21) 0, .str (Str.mk #[6, 227, 10, 95, 95, 109, 111, 100, 117, 108, 101, 95, 95, 6, 217, 17, 95, 102, 114, 111, 122, 101, 110, 95, 105, 109, 112, 111, 114, 116, 108, 105, 98, 6, 228, 15, 95, 95, 102, 105, 114, 115, 116, 108, 105, 110, 101, 110, 111, 95, 95, 4, 218, 0, 562, 6, 229, 7, 95, 95, 100, 111, 99, 95, 95, 9, 47, 95, 102, 114, 111, 122, 101, 110, 95, 105, 109, 112, 111, 114, 116, 108, 105, 98, 46, 77, 111, 100, 117, 108, 101, 83, 112, 101, 99, 46, 95, 95, 100, 111, 99, 95, 95, 58, 115, 116, 114, 35, 111, 112, 97, 113, 117, 101, 6, 230, 8, 95, 95, 105, 110, 105, 116, 95, 95, 9, 44, 95, 102, 114, 111, 122, 101, 110, 95, 105, 109, 112, 111, 114, 116, 108, 105, 98, 46, 77, 111, 100, 117, 108, 101, 83, 112, 101, 99, 46, 95, 95, 105, 110, 105, 116, 95, 95, 35, 111, 112, 97, 113, 117, 101, 6, 231, 8, 95, 95, 114, 101, 112, 114, 95, 95, 9, 44, 95, 102, 114, 111, 122, 101, 110, 95, 105, 109, 112, 111, 114, 116, 108, 105, 98, 46, 77, 111, 100, 117, 108, 101, 83, 112, 101, 99, 46, 95, 95, 114, 101, 112, 114, 95, 95, 35, 111, 112, 97, 113, 117, 101, 6, 232, 6, 95, 95, 101, 113, 95, 95, 9, 42, 95, 102, 114, 111, 122, 101, 110, 95, 105, 109, 112, 111, 114, 116, 108, 105, 98, 46, 77, 111, 100, 117, 108, 101, 83, 112, 101, 99, 46, 95, 95, 101, 113, 95, 95, 35, 111, 112, 97, 113, 117, 101, 6, 233, 6, 99, 97, 99, 104, 101, 100, 9, 42, 95, 102, 114, 111, 122, 101, 110, 95, 105, 109, 112, 111, 114, 116, 108, 105, 98, 46, 77, 111, 100, 117, 108, 101, 83, 112, 101, 99, 46, 99, 97, 99, 104, 101, 100, 35, 111, 112, 97, 113, 117, 101, 6, 234, 6, 112, 97, 114, 101, 110, 116, 9, 42, 95, 102, 114, 111, 122, 101, 110, 95, 105, 109, 112, 111, 114, 116, 108, 105, 98, 46, 77, 111, 100, 117, 108, 101, 83, 112, 101, 99, 46, 112, 97, 114, 101, 110, 116, 35, 111, 112, 97, 113, 117, 101, 6, 235, 12, 104, 97, 115, 95, 108, 111, 99, 97, 116, 105, 111, 110, 9, 48, 95, 102, 114, 111, 122, 101, 110, 95, 105, 109, 112, 111, 114, 116, 108, 105, 98, 46, 77, 111, 100, 117, 108, 101, 83, 112, 101, 99, 46, 104, 97, 115, 95, 108, 111, 99, 97, 116, 105, 111, 110, 35, 111, 112, 97, 113, 117, 101, 6, 236, 21, 95, 95, 115, 116, 97, 116, 105, 99, 95, 97, 116, 116, 114, 105, 98, 117, 116, 101, 115, 95, 95, 4, 0, 0, 23, 6, 238, 8, 95, 95, 100, 105, 99, 116, 95, 95, 4, 0, 0, 24, 6, 240, 11, 95, 95, 119, 101, 97, 107, 114, 101, 102, 95, 95, 4, 0, 0, 25, 6, 241, 8, 95, 95, 104, 97, 115, 104, 95, 95, 0]) 0, .bool true, .bool true, .str (Str.ofString "") 242] 1, #[]⟩
noncomputable def y19v0 : Obj := ⟨.type "list", none, .seq #[] 0, #[]⟩
noncomputable def y20v0 (P : Params) : Obj := ⟨.type "dict", none, .dict #[en P (Str.ofString "name") 208 (.str (Str.ofString "_sre") 207), en P (Str.ofString "loader") 209 (.ref 14), en P (Str.ofString "origin") 210 (.str (Str.ofString "built-in") 184), en P (Str.ofString "loader_state") 211 (.none), en P (Str.ofString "submodule_search_locations") 212 (.none), en P (Str.ofString "_uninitialized_submodules") 213 (.ref 19), en P (Str.ofString "_set_fileattr") 214 (.bool false), en P (Str.ofString "_cached") 215 (.none), en P (Str.ofString "_initializing") 243 (.bool false)] 9, #[]⟩
noncomputable def y21v0 (P : Params) : Obj := ⟨.type "dict", none, .dict #[en P (Str.ofString "__module__") 227 (.str (Str.ofString "_frozen_importlib") 217), en P (Str.ofString "__firstlineno__") 228 (.int (562) 218), en P (Str.ofString "__doc__") 229 (.builtin "_frozen_importlib.ModuleSpec.__doc__:str#opaque"), en P (Str.ofString "__init__") 230 (.builtin "_frozen_importlib.ModuleSpec.__init__#opaque"), en P (Str.ofString "__repr__") 231 (.builtin "_frozen_importlib.ModuleSpec.__repr__#opaque"), en P (Str.ofString "__eq__") 232 (.builtin "_frozen_importlib.ModuleSpec.__eq__#opaque"), en P (Str.ofString "cached") 233 (.builtin "_frozen_importlib.ModuleSpec.cached#opaque"), en P (Str.ofString "parent") 234 (.builtin "_frozen_importlib.ModuleSpec.parent#opaque"), en P (Str.ofString "has_location") 235 (.builtin "_frozen_importlib.ModuleSpec.has_location#opaque"), en P (Str.ofString "__static_attributes__") 236 (.ref 23), en P (Str.ofString "__dict__") 238 (.ref 24), en P (Str.ofString "__weakref__") 240 (.ref 25), en P (Str.ofString "__hash__") 241 (.none)] 13, #[]⟩
noncomputable def y22v0 : Obj := ⟨.type "type", none, .cls ⟨(Str.ofString "ModuleSpec"), [.type "object"], [.ref 22, .type "object"], 21, (Str.ofString "ModuleSpec"), true, [], [], false, none, false⟩, #[]⟩
noncomputable def y23v0 : Obj := ⟨.type "tuple", none, .seq #[.str (Str.ofString "_cached") 219, .str (Str.ofString "_set_fileattr") 220, .str (Str.ofString "_uninitialized_submodules") 221, .str (Str.ofString "loader") 222, .str (Str.ofString "loader_state") 223, .str (Str.ofString "name") 224, .str (Str.ofString "origin") 225, .str (Str.ofString "submodule_search_locations") 226] 0, #[]⟩
noncomputable def y24v0 : Obj := ⟨.type "getset_descriptor", none, .fields #[.str (Str.ofString "__dict__") 237, .ref 22, .builtin "function.__dict__", .builtin "function.__dict__#set"], #[]⟩
noncomputable def y25v0 : Obj := ⟨.type "getset_descriptor", none, .fields #[.str (Str.ofString "__weakref__") 239, .ref 22, .builtin "ExceptionGroup.__weakref__", .none], #[]⟩
noncomputable def y26v0 : Obj := ⟨.ref 22, some 20, .plain, #[]⟩
noncomputable def y27v0 : Obj := ⟨.none, none, .seq #[.int (11) 0, .str (Str.mk #[6, 247, 8, 95, 95, 110, 97, 109, 101, 95, 95, 6, 246, 4, 95, 115, 114, 101, 6, 248, 7, 95, 95, 100, 111, 99, 95, 95, 0, 6, 250, 11, 95, 95, 112, 97, 99, 107, 97, 103, 101, 95, 95, 6, 249, 0, 6, 251, 10, 95, 95, 108, 111, 97, 100, 101, 114, 95, 95, 4, 0, 0, 14, 6, 252, 8, 95, 95, 115, 112, 101, 99, 95, 95, 4, 0, 0, 26, 6, 253, 7, 99, 111, 109, 112, 105, 108, 101, 9, 12, 95, 115, 114, 101, 46, 99, 111, 109, 112, 105, 108, 101, 6, 254, 8, 116, 101, 109, 112, 108, 97, 116, 101, 9, 13, 95, 115, 114, 101, 46, 116, 101, 109, 112, 108, 97, 116, 101, 6, 255, 11, 103, 101, 116, 99, 111, 100, 101, 115, 105, 122, 101, 9, 16, 95, 115, 114, 101, 46, 103, 101, 116, 99, 111, 100, 101, 115, 105, 122, 101, 6, 256, 13, 97, 115, 99, 105, 105, 95, 105, 115, 99, 97, 115, 101, 100, 9, 18, 95, 115, 114, 101, 46, 97, 115, 99, 105, 105, 95, 105, 115, 99, 97, 115, 101, 100, 6, 257, 15, 117, 110, 105, 99, 111, 100, 101, 95, 105, 115, 99, 97, 115, 101, 100, 9, 20, 95, 115, 114, 101, 46, 117, 110, 105, 99, 111, 100, 101, 95, 105, 115, 99, 97, 115, 101, 100, 6, 258, 13, 97, 115, 99, 105, 105, 95, 116, 111, 108, 111, 119, 101, 114, 9, 18, 95, 115, 114, 101, 46, 97, 115, 99, 105, 105, 95, 116, 111, 108, 111, 119, 101, 114, 6, 259, 15, 117, 110, 105, 99, 111, 100, 101, 95, 116, 111, 108, 111, 119, 101, 114, 9, 20, 95, 115, 114, 101, 46, 117, 110, 105, 99, 111, 100, 101, 95, 116, 111, 108, 111, 119, 101, 114, 6, 261, 5, 77, 65, 71, 73, 67, 4, 260, 0, 20230612, 6, 263, 8, 67, 79, 68, 69, 83, 73, 90, 69, 4, 262, 0, 4, 6, 265, 9, 77, 65, 88, 82, 69, 80, 69, 65, 84, 4, 264, 0, 4294967295, 6, 267, 9, 77, 65, 88, 71, 82, 79, 85, 80, 83, 4, 266, 0, 1073741823, 6, 269, 9, 99, 111, 112, 121, 114, 105, 103, 104, 116, 6, 268, 53, 32, 83, 82, 69, 32, 50, 46, 50, 46, 50, 32, 67, 111, 112, 121, 114, 105, 103, 104, 116, 32, 40, 99, 41, 32, 49, 57, 57, 55, 45, 50, 48, 48, 50, 32, 98, 121, 32, 83, 101, 99, 114, 101, 116, 32, 76, 97, 98, 115, 32, 65, 66, 32]) 0, .bool true, .bool false, .str (Str.ofString "_sre") 271, .int (29) 0, .str (Str.mk #[6, 296, 8, 95, 95, 110, 97, 109, 101, 95, 95, 6, 295, 12, 95, 99, 111, 108, 108, 101, 99, 116, 105, 111, 110, 115, 6, 297, 7, 95, 95, 100, 111, 99, 95, 95, 9, 31, 95, 99, 111, 108, 108, 101, 99, 116, 105, 111, 110, 115, 46, 95, 95, 100, 111, 99, 95, 95, 58, 115, 116, 114, 35, 111, 112, 97, 113, 117, 101, 6, 299, 11, 95, 95, 112, 97, 99, 107, 97, 103, 101, 95, 95, 6, 298, 0, 6, 300, 10, 95, 95, 108, 111, 97, 100, 101, 114, 95, 95, 4, 0, 0, 14, 6, 301, 8, 95, 95, 115, 112, 101, 99, 95, 95, 4, 0, 0, 33, 6, 302, 15, 95, 99, 111, 117, 110, 116, 95, 101, 108, 101, 109, 101, 110, 116, 115, 9, 28, 95, 99, 111, 108, 108, 101, 99, 116, 105, 111, 110, 115, 46, 95, 99, 111, 117, 110, 116, 95, 101, 108, 101, 109, 101, 110, 116, 115, 6, 303, 5, 100, 101, 113, 117, 101, 8, 17, 99, 111, 108, 108, 101, 99, 116, 105, 111, 110, 115, 46, 100, 101, 113, 117, 101, 6, 304, 11, 100, 101, 102, 97, 117, 108, 116, 100, 105, 99, 116, 8, 23, 99, 111, 108, 108, 101, 99, 116, 105, 111, 110, 115, 46, 100, 101, 102, 97, 117, 108, 116, 100, 105, 99, 116, 6, 305, 15, 95, 100, 101, 113, 117, 101, 95, 105, 116, 101, 114, 97, 116, 111, 114, 8, 27, 99, 111, 108, 108, 101, 99, 116, 105, 111, 110, 115, 46, 95, 100, 101, 113, 117, 101, 95, 105, 116, 101, 114, 97, 116, 111, 114, 6, 306, 23, 95, 100, 101, 113, 117, 101, 95, 114, 101, 118, 101, 114, 115, 101, 95, 105, 116, 101, 114, 97, 116, 111, 114, 8, 35, 99, 111, 108, 108, 101, 99, 116, 105, 111, 110, 115, 46, 95, 100, 101, 113, 117, 101, 95, 114, 101, 118, 101, 114, 115, 101, 95, 105, 116, 101, 114, 97, 116, 111, 114, 6, 307, 12, 95, 116, 117, 112, 108, 101, 103, 101, 116, 116, 101, 114, 8, 24, 99, 111, 108, 108, 101, 99, 116, 105, 111, 110, 115, 46, 95, 116, 117, 112, 108, 101, 103, 101, 116, 116, 101, 114, 6, 308, 11, 79, 114, 100, 101, 114, 101, 100, 68, 105, 99, 116, 8, 23, 99, 111, 108, 108, 101, 99, 116, 105, 111, 110, 115, 46, 79, 114, 100, 101, 114, 101, 100, 68, 105, 99, 116]) 0, .bool true, .bool false, .str (Str.ofString "_collections") 310] 1, #[]⟩
noncomputable def y28v0 : Obj := ⟨.type "tuple", none, .seq #[.str (Str.ofString "deque") 277] 0, #[]⟩
noncomputable def y29v0 (P : Params) : Obj := ⟨.type "dict", none, .dict #[en P (Str.ofString "__name__") 296 (.str (Str.ofString "_collections") 295), en P (Str.ofString "__doc__") 297 (.builtin "off-the-table:_collections.__doc__:shared#opaque"), en P (Str.ofString "__package__") 299 (.str (Str.ofString "") 298), en P (Str.ofString "__loader__") 300 (.builtin "off-the-table:_collections.__loader__:shared#opaque"), en P (Str.ofString "__spec__") 301 (.builtin "off-the-table:_collections.__spec__:shared#opaque"), en P (Str.ofString "_count_elements") 302 (.builtin "_collections._count_elements"), en P (Str.ofString "deque") 303 (.type "collections.deque"), en P (Str.ofString "defaultdict") 304 (.type "collections.defaultdict"), en P (Str.ofString "_deque_iterator") 305 (.builtin "off-the-table:_collections._deque_iterator:shared#opaque"), en P (Str.ofString "_deque_reverse_iterator") 306 (.builtin "off-the-table:_collections._deque_reverse_iterator:shared#opaque"), en P (Str.ofString "_tuplegetter") 307 (.type "collections._tuplegetter"), en P (Str.ofString "OrderedDict") 308 (.type "collections.OrderedDict")] 12, #[]⟩
noncomputable def y30v0 : Obj := ⟨.type "module", some 29, .plain, #[]⟩
noncomputable def y31v0 : Obj := ⟨.type "list", none, .seq #[] 0, #[]⟩
noncomputable def y32v0 (P : Params) : Obj := ⟨.type "dict", none, .dict #[en P (Str.ofString "name") 283 (.str (Str.ofString "_collections") 282), en P (Str.ofString "loader") 284 (.ref 14), en P (Str.ofString "origin") 285 (.str (Str.ofString "built-in") 281), en P (Str.ofString "loader_state") 286 (.none), en P (Str.ofString "submodule_search_locations") 287 (.none), en P (Str.ofString "_uninitialized_submodules") 288 (.ref 31), en P (Str.ofString "_set_fileattr") 289 (.bool false), en P (Str.ofString "_cached") 290 (.none), en P (Str.ofString "_initializing") 291 (.bool false)] 9, #[]⟩
noncomputable def y33v0 : Obj := ⟨.ref 22, some 32, .plain, #[]⟩
noncomputable def hdT0 (P : Params) : BT := (.node (y0v0 P) (.node (y1v0 P) (.node (y3v0 P) (.node y7v0 (.node y15v0 (.node y31v0 .nil .nil) .nil) (.node y23v0 .nil .nil)) (.node (y11v0 P) (.node y19v0 .nil .nil) (.node y27v0 .nil .nil))) (.node y5v0 (.node y9v0 (.node y17v0 (.node y33v0 .nil .nil) .nil) (.node y25v0 .nil .nil)) (.node (y13v0 P) (.node (y21v0 P) .nil .nil) (.node (y29v0 P) .nil .nil)))) (.node (y2v0 P) (.node y4v0 (.node y8v0 (.node y16v0 (.node (y32v0 P) .nil .nil) .nil) (.node y24v0 .nil .nil)) (.node y12v0 (.node (y20v0 P) .nil .nil) (.node y28v0 .nil .nil))) (.node (y6v0 P) (.node y10v0 (.node y18v0 .nil .nil) (.node y26v0 .nil .nil)) (.node y14v0 (.node y22v0 .nil .nil) (.node y30v0 .nil .nil)))))
noncomputable def y34v1 : Obj := ⟨.type "tuple", none, .seq #[] 0, #[]⟩
noncomputable def y35v1 : Obj := ⟨.none, none, .fields #[], #[]⟩
noncomputable def y36v1 : Obj := ⟨.type "code", none, .fields #[.str (Str.ofString "<module>") 319, .str (Str.ofString "<module>") 320, .str (Str.ofString "/claim/cut.py") 321, .int (1) 0, .int (0) 0, .int (0) 0, .int (0) 0, .int (0) 0, .ref 34, .bool false, .int (318) 0, .ref 35, .none, .none, .none, .none, .int (322) 0, .int (1) 0, .str (Str.ofString "/claim/cut.py") 323], #[]⟩
noncomputable def y37v1 : Obj := ⟨.type "frame", none, .plain, #[some (.ref 36), some (.ref 3), some (.ref 3), none, some (.str (Str.ofString "__main__") 164), none, some (.ref 0)]⟩
noncomputable def hdT1 (P : Params) : BT := (.node (y0v0 P) (.node (y1v0 P) (.node (y3v0 P) (.node y7v0 (.node y15v0 (.node y31v0 .nil .nil) .nil) (.node y23v0 .nil .nil)) (.node (y11v0 P) (.node y19v0 (.node y35v1 .nil .nil) .nil) (.node y27v0 .nil .nil))) (.node y5v0 (.node y9v0 (.node y17v0 (.node y33v0 .nil .nil) .nil) (.node y25v0 .nil .nil)) (.node (y13v0 P) (.node (y21v0 P) (.node y37v1 .nil .nil) .nil) (.node (y29v0 P) .nil .nil)))) (.node (y2v0 P) (.node y4v0 (.node y8v0 (.node y16v0 (.node (y32v0 P) .nil .nil) .nil) (.node y24v0 .nil .nil)) (.node y12v0 (.node (y20v0 P) (.node y36v1 .nil .nil) .nil) (.node y28v0 .nil .nil))) (.node (y6v0 P) (.node y10v0 (.node y18v0 (.node y34v1 .nil .nil) .nil) (.node y26v0 .nil .nil)) (.node y14v0 (.node y22v0 .nil .nil) (.node y30v0 .nil .nil)))))
noncomputable def y2v2 (P : Params) : Obj := ⟨.none, none, .dict #[en P (Str.mk #[105, 109, 112, 111, 114, 116, 46, 108, 111, 97, 100, 101, 100, 46, 95, 115, 114, 101]) 183 (.bool true), en P (Str.ofString "class._frozen_importlib.BuiltinImporter") 185 (.ref 14), en P (Str.mk #[119, 97, 116, 99, 104, 101, 100, 46, 105, 109, 112, 111, 114, 116]) 206 (.ref 18), en P (Str.ofString "class._frozen_importlib.ModuleSpec") 216 (.ref 22), en P (Str.ofString "sys.modules.booked-epoch") 245 (.int (4) 0), en P (Str.mk #[105, 109, 112, 111, 114, 116, 46, 108, 97, 116, 101, 114, 45, 108, 97, 105, 100, 46, 95, 115, 114, 101]) 270 (.bool true), en P (Str.ofString "watched.library") 272 (.ref 27), en P (Str.ofString "watched.library-objects") 0 (.str (Str.ofString "\x0c\x1e") 0), en P (Str.ofString "watched.library-deep._sre") 273 (.str (Str.ofString "\x04\x00\x00\x0b\x04\x00\x00\x0b\x04\x00\x00\x03\x04\x00\x00\x0b\x08\x04dict\x02") 0), en P (Str.mk #[105, 109, 112, 111, 114, 116, 46, 108, 111, 97, 100, 101, 100, 46, 95, 99, 111, 108, 108, 101, 99, 116, 105, 111, 110, 115]) 280 (.bool true), en P (Str.ofString "sys.modules.landed._collections") 294 (.bool true), en P (Str.mk #[105, 109, 112, 111, 114, 116, 46, 108, 97, 116, 101, 114, 45, 108, 97, 105, 100, 46, 95, 99, 111, 108, 108, 101, 99, 116, 105, 111, 110, 115]) 309 (.bool true), en P (Str.ofString "watched.library-deep._collections") 311 (.str (Str.ofString "\x04\x00\x00\x1d\x04\x00\x00\x1d\x04\x00\x00\x03\x04\x00\x00\x1d\x08\x04dict\x02") 0), en P (Str.ofString "type.__subclasses__.OSError.0") 455 (.int (92) 0), en P (Str.ofString "type.__subclasses__.OSError.n") 456 (.int (1) 0)] 15, #[]⟩
noncomputable def y3v2 (P : Params) : Obj := ⟨.type "dict", none, .dict #[en P (Str.ofString "__name__") 165 (.str (Str.ofString "io") 419), en P (Str.ofString "__doc__") 166 (.none), en P (Str.ofString "__package__") 167 (.none), en P (Str.ofString "__loader__") 168 (.builtin "__main__.__loader__#opaque"), en P (Str.ofString "__spec__") 169 (.none), en P (Str.ofString "__annotations__") 170 (.ref 6), en P (Str.ofString "__builtins__") 171 (.ref 4), en P (Str.ofString "__file__") 173 (.str (Str.ofString "/claim/cut.py") 172), en P (Str.ofString "__cached__") 174 (.none), en P (Str.ofString "_sre") 275 (.ref 12), en P (Str.ofString "deque") 317 (.type "collections.deque"), en P (Str.ofString "_wall") 330 (.ref 44), en P (Str.ofString "IPV4_RE") 362 (.ref 49), en P (Str.ofString "liberal_is_HDN") 369 (.ref 56), en P (Str.ofString "user_domain_match") 378 (.ref 63), en P (Str.ofString "_twin_re_1") 418 (.ref 68), en P (Str.ofString "_whence") 428 (.ref 75), en P (Str.ofString "_index") 436 (.ref 82), en P (Str.ofString "UnsupportedOperation") 458 (.ref 92)] 19, #[]⟩
noncomputable def y35v2 : Obj := ⟨.none, none, .fields #[.int (3) 0, .int (0) 0, .ref 43, .int (8) 0, .int (0) 0, .ref 55, .int (12) 0, .int (0) 0, .ref 62, .int (27) 0, .int (0) 0, .ref 74, .int (32) 0, .int (0) 0, .ref 81, .int (39) 0, .int (0) 0, .ref 88], #[]⟩
noncomputable def y38v2 : Obj := ⟨.type "tuple", none, .seq #[] 0, #[]⟩
noncomputable def y39v2 : Obj := ⟨.none, none, .fields #[], #[]⟩
noncomputable def y40v2 : Obj := ⟨.type "tuple", none, .seq #[.str (Str.ofString "k") 327] 0, #[]⟩
noncomputable def y41v2 : Obj := ⟨.type "tuple", none, .seq #[] 0, #[]⟩
noncomputable def y42v2 : Obj := fnR (stAt 2) (Str.ofString "_wall")
noncomputable def y43v2 : Obj := ⟨.type "code", none, .fields #[.str (Str.ofString "_wall") 324, .str (Str.ofString "_wall") 325, .str (Str.ofString "/claim/cut.py") 326, .int (3) 0, .int (1) 0, .int (0) 0, .int (0) 0, .int (3) 0, .ref 38, .bool true, .int (318) 0, .ref 39, .none, .ref 40, .ref 41, .ref 42, .int (328) 0, .int (3) 0, .str (Str.ofString "/claim/cut.py") 329], #[]⟩
noncomputable def y44v2 : Obj := fnO (stAt 2) (Str.ofString "_wall") (.none) (.none) (.none) (.str (Str.ofString "__main__") 164) (.ref 43) (.none)
noncomputable def y45v2 : Obj := ⟨.type "list", none, .seq #[.int (14) 336, .int (8) 337, .int (1) 338, .int (2) 339, .int (4294967295) 340, .int (1) 341, .int (1) 342, .int (46) 343, .int (0) 344, .int (16) 345, .int (46) 346, .int (24) 347, .int (9) 348, .int (1) 349, .int (4294967295) 350, .int (13) 351, .int (4) 352, .int (8) 353, .int (0) 354, .int (0) 355, .int (1) 356, .int (6) 357, .int (5) 358, .int (1) 359] 0, #[]⟩
noncomputable def y46v2 (P : Params) : Obj := ⟨.type "dict", none, .dict #[] 0, #[]⟩
noncomputable def y47v2 : Obj := ⟨.type "tuple", none, .seq #[.none] 0, #[]⟩
noncomputable def y50v2 : Obj := ⟨.type "tuple", none, .seq #[] 0, #[]⟩
noncomputable def y51v2 : Obj := ⟨.none, none, .fields #[], #[]⟩
noncomputable def y52v2 : Obj := ⟨.type "tuple", none, .seq #[.str (Str.ofString "text") 366] 0, #[]⟩
noncomputable def y53v2 : Obj := ⟨.type "tuple", none, .seq #[] 0, #[]⟩
noncomputable def y54v2 : Obj := fnR (stAt 5) (Str.ofString "liberal_is_HDN")
noncomputable def y57v2 : Obj := ⟨.type "tuple", none, .seq #[] 0, #[]⟩
noncomputable def y58v2 : Obj := ⟨.none, none, .fields #[], #[]⟩
noncomputable def y59v2 : Obj := ⟨.type "tuple", none, .seq #[.str (Str.ofString "A") 373, .str (Str.ofString "B") 374, .str (Str.ofString "initial_dot") 375] 0, #[]⟩
noncomputable def y60v2 : Obj := ⟨.type "tuple", none, .seq #[] 0, #[]⟩
noncomputable def y61v2 : Obj := fnR (stAt 6) (Str.ofString "user_domain_match")
noncomputable def y64v2 : Obj := ⟨.type "list", none, .seq #[.int (14) 382, .int (17) 383, .int (4) 384, .int (1) 385, .int (1) 386, .int (21) 387, .int (9) 388, .int (0) 389, .int (604043296) 390, .int (1) 391, .int (0) 392, .int (0) 393, .int (0) 394, .int (0) 395, .int (0) 396, .int (8) 397, .int (4) 398, .int (0) 399, .int (13) 400, .int (14) 401, .int (21) 402, .int (9) 403, .int (0) 404, .int (604043296) 405, .int (1) 406, .int (0) 407, .int (0) 408, .int (0) 409, .int (0) 410, .int (0) 411, .int (8) 412, .int (4) 413, .int (0) 414, .int (1) 415] 0, #[]⟩
noncomputable def y65v2 (P : Params) : Obj := ⟨.type "dict", none, .dict #[] 0, #[]⟩
noncomputable def y66v2 : Obj := ⟨.type "tuple", none, .seq #[.none] 0, #[]⟩
noncomputable def y69v2 : Obj := ⟨.type "tuple", none, .seq #[] 0, #[]⟩
noncomputable def y70v2 : Obj := ⟨.none, none, .fields #[], #[]⟩
noncomputable def y71v2 : Obj := ⟨.type "tuple", none, .seq #[.str (Str.ofString "n") 424, .str (Str.ofString "what") 425] 0, #[]⟩
noncomputable def y72v2 : Obj := ⟨.type "tuple", none, .seq #[] 0, #[]⟩
noncomputable def y73v2 : Obj := fnR (stAt 9) (Str.ofString "_whence")
noncomputable def y74v2 : Obj := ⟨.type "code", none, .fields #[.str (Str.ofString "_whence") 421, .str (Str.ofString "_whence") 422, .str (Str.ofString "/claim/cut.py") 423, .int (27) 0, .int (2) 0, .int (0) 0, .int (0) 0, .int (3) 0, .ref 69, .bool true, .int (318) 0, .ref 70, .none, .ref 71, .ref 72, .ref 73, .int (426) 0, .int (27) 0, .str (Str.ofString "/claim/cut.py") 427], #[]⟩
noncomputable def y75v2 : Obj := fnO (stAt 9) (Str.ofString "_whence") (.none) (.none) (.none) (.str (Str.ofString "io") 419) (.ref 74) (.none)
noncomputable def y76v2 : Obj := ⟨.type "tuple", none, .seq #[] 0, #[]⟩
noncomputable def y77v2 : Obj := ⟨.none, none, .fields #[], #[]⟩
noncomputable def y78v2 : Obj := ⟨.type "tuple", none, .seq #[.str (Str.ofString "n") 432, .str (Str.ofString "what") 433] 0, #[]⟩
noncomputable def y79v2 : Obj := ⟨.type "tuple", none, .seq #[] 0, #[]⟩
noncomputable def y80v2 : Obj := fnR (stAt 10) (Str.ofString "_index")
noncomputable def y83v2 : Obj := ⟨.type "tuple", none, .seq #[.type "OSError", .type "ValueError"] 0, #[]⟩
noncomputable def y84v2 : Obj := ⟨.type "builtin_function_or_method", none, .fields #[.builtin "type.__prepare__", .type "type"], #[]⟩
noncomputable def y85v2 (P : Params) : Obj := ⟨.type "dict", none, .dict #[en P (Str.ofString "__module__") 444 (.str (Str.ofString "io") 449), en P (Str.ofString "__qualname__") 446 (.str (Str.ofString "UnsupportedOperation") 445), en P (Str.ofString "__firstlineno__") 448 (.int (39) 447), en P (Str.ofString "__static_attributes__") 451 (.ref 90)] 4, #[]⟩
noncomputable def y86v2 : Obj := ⟨.type "tuple", none, .seq #[] 0, #[]⟩
noncomputable def y87v2 : Obj := ⟨.none, none, .fields #[], #[]⟩
noncomputable def y88v2 : Obj := ⟨.type "code", none, .fields #[.str (Str.ofString "UnsupportedOperation") 439, .str (Str.ofString "UnsupportedOperation") 440, .str (Str.ofString "/claim/cut.py") 441, .int (39) 0, .int (0) 0, .int (0) 0, .int (0) 0, .int (0) 0, .ref 86, .bool false, .int (318) 0, .ref 87, .none, .none, .none, .none, .int (442) 0, .int (39) 0, .str (Str.ofString "/claim/cut.py") 443], #[]⟩
noncomputable def y89v2 : Obj := ⟨.type "frame", none, .plain, #[some (.ref 88), some (.ref 3), some (.ref 85), none, some (.str (Str.ofString "io") 419), none, some (.ref 0)]⟩
noncomputable def y90v2 : Obj := ⟨.type "tuple", none, .seq #[] 0, #[]⟩
noncomputable def y91v2 (P : Params) : Obj := ⟨.type "dict", none, .dict #[en P (Str.ofString "__module__") 444 (.str (Str.ofString "io") 449), en P (Str.ofString "__firstlineno__") 448 (.int (39) 447), en P (Str.ofString "__static_attributes__") 451 (.ref 90), en P (Str.ofString "__weakref__") 453 (.ref 93), en P (Str.ofString "__doc__") 454 (.none)] 3, #[]⟩
noncomputable def y92v2 : Obj := ⟨.type "type", none, .cls ⟨(Str.ofString "UnsupportedOperation"), [.type "OSError", .type "ValueError"], [.ref 92, .type "OSError", .type "ValueError", .type "Exception", .type "BaseException", .type "object"], 91, (Str.ofString "UnsupportedOperation"), true, [], [], false, none, false⟩, #[some (.ref 83), none, some (.str (Str.ofString "UnsupportedOperation") 437), some (.str (Str.ofString "UnsupportedOperation") 445), some (.builtin "OSError.__new__"), some (.bool true)]⟩
noncomputable def y93v2 : Obj := ⟨.type "getset_descriptor", none, .fields #[.str (Str.ofString "__weakref__") 452, .ref 92, .builtin "ExceptionGroup.__weakref__", .none], #[]⟩
noncomputable def y94v2 : Obj := ⟨.type "super", none, .fields #[.ref 92, .ref 92, .ref 92], #[]⟩
noncomputable def y95v2 : Obj := ⟨.type "builtin_function_or_method", none, .fields #[.builtin "object.__init_subclass__", .ref 92], #[]⟩
noncomputable def hdT2 (P : Params) : BT := (.node (y0v0 P) (.node (y1v0 P) (.node (y3v2 P) (.node y7v0 (.node y15v0 (.node y31v0 (.node o63 .nil .nil) (.node y95v2 .nil .nil)) (.node y47v2 (.node y79v2 .nil .nil) .nil)) (.node y23v0 (.node y39v2 (.node y71v2 .nil .nil) .nil) (.node o55 (.node y87v2 .nil .nil) .nil))) (.node (y11v0 P) (.node y19v0 (.node y35v2 (.node o67 .nil .nil) .nil) (.node y51v2 (.node y83v2 .nil .nil) .nil)) (.node y27v0 (.node y43v2 (.node y75v2 .nil .nil) .nil) (.node y59v2 (.node (y91v2 P) .nil .nil) .nil)))) (.node y5v0 (.node y9v0 (.node y17v0 (.node y33v0 (.node (y65v2 P) .nil .nil) .nil) (.node o49 (.node o81 .nil .nil) .nil)) (.node y25v0 (.node y41v2 (.node y73v2 .nil .nil) .nil) (.node y57v2 (.node y89v2 .nil .nil) .nil))) (.node (y13v0 P) (.node (y21v0 P) (.node y37v1 (.node y69v2 .nil .nil) .nil) (.node y53v2 (.node (y85v2 P) .nil .nil) .nil)) (.node (y29v0 P) (.node y45v2 (.node y77v2 .nil .nil) .nil) (.node y61v2 (.node y93v2 .nil .nil) .nil))))) (.node (y2v2 P) (.node y4v0 (.node y8v0 (.node y16v0 (.node (y32v0 P) (.node y64v2 .nil .nil) .nil) (.node o48 (.node y80v2 .nil .nil) .nil)) (.node y24v0 (.node y40v2 (.node y72v2 .nil .nil) .nil) (.node o56 (.node y88v2 .nil .nil) .nil))) (.node y12v0 (.node (y20v0 P) (.node y36v1 (.node o68 .nil .nil) .nil) (.node y52v2 (.node y84v2 .nil .nil) .nil)) (.node y28v0 (.node y44v2 (.node y76v2 .nil .nil) .nil) (.node y60v2 (.node y92v2 .nil .nil) .nil)))) (.node (y6v0 P) (.node y10v0 (.node y18v0 (.node y34v1 (.node y66v2 .nil .nil) .nil) (.node y50v2 (.node o82 .nil .nil) .nil)) (.node y26v0 (.node y42v2 (.node y74v2 .nil .nil) .nil) (.node y58v2 (.node y90v2 .nil .nil) .nil))) (.node y14v0 (.node y22v0 (.node y38v2 (.node y70v2 .nil .nil) .nil) (.node y54v2 (.node y86v2 .nil .nil) .nil)) (.node y30v0 (.node (y46v2 P) (.node y78v2 .nil .nil) .nil) (.node o62 (.node y94v2 .nil .nil) .nil))))))
noncomputable def y3v3 (P : Params) : Obj := ⟨.type "dict", none, .dict #[en P (Str.ofString "__name__") 165 (.str (Str.ofString "io") 419), en P (Str.ofString "__doc__") 166 (.none), en P (Str.ofString "__package__") 167 (.none), en P (Str.ofString "__loader__") 168 (.builtin "__main__.__loader__#opaque"), en P (Str.ofString "__spec__") 169 (.none), en P (Str.ofString "__annotations__") 170 (.ref 6), en P (Str.ofString "__builtins__") 171 (.ref 4), en P (Str.ofString "__file__") 173 (.str (Str.ofString "/claim/cut.py") 172), en P (Str.ofString "__cached__") 174 (.none), en P (Str.ofString "_sre") 275 (.ref 12), en P (Str.ofString "deque") 317 (.type "collections.deque"), en P (Str.ofString "_wall") 330 (.ref 44), en P (Str.ofString "IPV4_RE") 362 (.ref 49), en P (Str.ofString "liberal_is_HDN") 369 (.ref 56), en P (Str.ofString "user_domain_match") 378 (.ref 63), en P (Str.ofString "_twin_re_1") 418 (.ref 68), en P (Str.ofString "_whence") 428 (.ref 75), en P (Str.ofString "_index") 436 (.ref 82), en P (Str.ofString "UnsupportedOperation") 458 (.ref 92), en P (Str.ofString "IOBase") 490 (.ref 112), en P (Str.ofString "BufferedIOBase") 508 (.ref 127), en P (Str.ofString "TextIOBase") 526 (.ref 139)] 22, #[]⟩
noncomputable def y35v3 : Obj := ⟨.none, none, .fields #[.int (3) 0, .int (0) 0, .ref 43, .int (8) 0, .int (0) 0, .ref 55, .int (12) 0, .int (0) 0, .ref 62, .int (27) 0, .int (0) 0, .ref 74, .int (32) 0, .int (0) 0, .ref 81, .int (39) 0, .int (0) 0, .ref 88, .int (41) 0, .int (0) 0, .ref 101, .int (48) 0, .int (0) 0, .ref 123, .int (50) 0, .int (0) 0, .ref 135], #[]⟩
noncomputable def y96v3 : Obj := ⟨.type "tuple", none, .seq #[] 0, #[]⟩
noncomputable def y97v3 : Obj := ⟨.type "builtin_function_or_method", none, .fields #[.builtin "type.__prepare__", .type "type"], #[]⟩
noncomputable def y98v3 (P : Params) : Obj := ⟨.type "dict", none, .dict #[en P (Str.ofString "__module__") 466 (.str (Str.ofString "io") 471), en P (Str.ofString "__qualname__") 468 (.str (Str.ofString "IOBase") 467), en P (Str.ofString "__firstlineno__") 470 (.int (41) 469), en P (Str.ofString "__new__") 481 (.ref 109), en P (Str.ofString "__static_attributes__") 482 (.ref 110)] 5, #[]⟩
noncomputable def y99v3 : Obj := ⟨.type "tuple", none, .seq #[] 0, #[]⟩
noncomputable def y100v3 : Obj := ⟨.none, none, .fields #[.int (44) 0, .int (4) 0, .ref 108], #[]⟩
noncomputable def y101v3 : Obj := ⟨.type "code", none, .fields #[.str (Str.ofString "IOBase") 461, .str (Str.ofString "IOBase") 462, .str (Str.ofString "/claim/cut.py") 463, .int (41) 0, .int (0) 0, .int (0) 0, .int (0) 0, .int (0) 0, .ref 99, .bool false, .int (318) 0, .ref 100, .none, .none, .none, .none, .int (464) 0, .int (41) 0, .str (Str.ofString "/claim/cut.py") 465], #[]⟩
noncomputable def y102v3 : Obj := ⟨.type "frame", none, .plain, #[some (.ref 101), some (.ref 3), some (.ref 98), none, some (.str (Str.ofString "io") 419), none, some (.ref 0)]⟩
noncomputable def y103v3 : Obj := ⟨.type "tuple", none, .seq #[] 0, #[]⟩
noncomputable def y104v3 : Obj := ⟨.none, none, .fields #[], #[]⟩
noncomputable def y105v3 : Obj := ⟨.type "tuple", none, .seq #[.str (Str.ofString "cls") 476, .str (Str.ofString "args") 477, .str (Str.ofString "kwargs") 478] 0, #[]⟩
noncomputable def y106v3 : Obj := ⟨.type "tuple", none, .seq #[] 0, #[]⟩
noncomputable def y107v3 : Obj := fnR (mAt 12 1) (Str.ofString "IOBase.__new__")
noncomputable def y110v3 : Obj := ⟨.type "tuple", none, .seq #[] 0, #[]⟩
noncomputable def y114v3 : Obj := ⟨.type "getset_descriptor", none, .fields #[.str (Str.ofString "__dict__") 484, .ref 112, .builtin "function.__dict__", .builtin "function.__dict__#set"], #[]⟩
noncomputable def y115v3 : Obj := ⟨.type "getset_descriptor", none, .fields #[.str (Str.ofString "__weakref__") 486, .ref 112, .builtin "ExceptionGroup.__weakref__", .none], #[]⟩
noncomputable def y116v3 : Obj := ⟨.type "super", none, .fields #[.ref 112, .ref 112, .ref 112], #[]⟩
noncomputable def y117v3 : Obj := ⟨.type "builtin_function_or_method", none, .fields #[.builtin "object.__init_subclass__", .ref 112], #[]⟩
noncomputable def y118v3 : Obj := ⟨.type "tuple", none, .seq #[.ref 112] 0, #[]⟩
noncomputable def y119v3 : Obj := ⟨.type "builtin_function_or_method", none, .fields #[.builtin "type.__prepare__", .type "type"], #[]⟩
noncomputable def y120v3 (P : Params) : Obj := ⟨.type "dict", none, .dict #[en P (Str.ofString "__module__") 498 (.str (Str.ofString "io") 503), en P (Str.ofString "__qualname__") 500 (.str (Str.ofString "BufferedIOBase") 499), en P (Str.ofString "__firstlineno__") 502 (.int (48) 501), en P (Str.ofString "__static_attributes__") 505 (.ref 125)] 4, #[]⟩
noncomputable def y121v3 : Obj := ⟨.type "tuple", none, .seq #[] 0, #[]⟩
noncomputable def y122v3 : Obj := ⟨.none, none, .fields #[], #[]⟩
noncomputable def y123v3 : Obj := ⟨.type "code", none, .fields #[.str (Str.ofString "BufferedIOBase") 493, .str (Str.ofString "BufferedIOBase") 494, .str (Str.ofString "/claim/cut.py") 495, .int (48) 0, .int (0) 0, .int (0) 0, .int (0) 0, .int (0) 0, .ref 121, .bool false, .int (318) 0, .ref 122, .none, .none, .none, .none, .int (496) 0, .int (48) 0, .str (Str.ofString "/claim/cut.py") 497], #[]⟩
noncomputable def y124v3 : Obj := ⟨.type "frame", none, .plain, #[some (.ref 123), some (.ref 3), some (.ref 120), none, some (.str (Str.ofString "io") 419), none, some (.ref 0)]⟩
noncomputable def y125v3 : Obj := ⟨.type "tuple", none, .seq #[] 0, #[]⟩
noncomputable def y126v3 (P : Params) : Obj := ⟨.type "dict", none, .dict #[en P (Str.ofString "__module__") 498 (.str (Str.ofString "io") 503), en P (Str.ofString "__firstlineno__") 502 (.int (48) 501), en P (Str.ofString "__static_attributes__") 505 (.ref 125), en P (Str.ofString "__doc__") 506 (.none)] 2, #[]⟩
noncomputable def y127v3 : Obj := ⟨.type "type", none, .cls ⟨(Str.ofString "BufferedIOBase"), [.ref 112], [.ref 127, .ref 112, .type "object"], 126, (Str.ofString "BufferedIOBase"), true, [], [], false, none, false⟩, #[some (.ref 118), none, some (.str (Str.ofString "BufferedIOBase") 491), some (.str (Str.ofString "BufferedIOBase") 499), some (.none), some (.bool true)]⟩
noncomputable def y128v3 : Obj := ⟨.type "super", none, .fields #[.ref 127, .ref 127, .ref 127], #[]⟩
noncomputable def y129v3 : Obj := ⟨.type "builtin_function_or_method", none, .fields #[.builtin "object.__init_subclass__", .ref 127], #[]⟩
noncomputable def y130v3 : Obj := ⟨.type "tuple", none, .seq #[.ref 112] 0, #[]⟩
noncomputable def y131v3 : Obj := ⟨.type "builtin_function_or_method", none, .fields #[.builtin "type.__prepare__", .type "type"], #[]⟩
noncomputable def y132v3 (P : Params) : Obj := ⟨.type "dict", none, .dict #[en P (Str.ofString "__module__") 516 (.str (Str.ofString "io") 521), en P (Str.ofString "__qualname__") 518 (.str (Str.ofString "TextIOBase") 517), en P (Str.ofString "__firstlineno__") 520 (.int (50) 519), en P (Str.ofString "__static_attributes__") 523 (.ref 137)] 4, #[]⟩
noncomputable def y133v3 : Obj := ⟨.type "tuple", none, .seq #[] 0, #[]⟩
noncomputable def y134v3 : Obj := ⟨.none, none, .fields #[], #[]⟩
noncomputable def y135v3 : Obj := ⟨.type "code", none, .fields #[.str (Str.ofString "TextIOBase") 511, .str (Str.ofString "TextIOBase") 512, .str (Str.ofString "/claim/cut.py") 513, .int (50) 0, .int (0) 0, .int (0) 0, .int (0) 0, .int (0) 0, .ref 133, .bool false, .int (318) 0, .ref 134, .none, .none, .none, .none, .int (514) 0, .int (50) 0, .str (Str.ofString "/claim/cut.py") 515], #[]⟩
noncomputable def y136v3 : Obj := ⟨.type "frame", none, .plain, #[some (.ref 135), some (.ref 3), some (.ref 132), none, some (.str (Str.ofString "io") 419), none, some (.ref 0)]⟩
noncomputable def y137v3 : Obj := ⟨.type "tuple", none, .seq #[] 0, #[]⟩
noncomputable def y139v3 : Obj := ⟨.type "type", none, .cls ⟨(Str.ofString "TextIOBase"), [.ref 112], [.ref 139, .ref 112, .type "object"], 138, (Str.ofString "TextIOBase"), true, [], [], false, none, false⟩, #[some (.ref 130), none, some (.str (Str.ofString "TextIOBase") 509), some (.str (Str.ofString "TextIOBase") 517), some (.none), some (.bool true)]⟩
noncomputable def y140v3 : Obj := ⟨.type "super", none, .fields #[.ref 139, .ref 139, .ref 139], #[]⟩
noncomputable def y141v3 : Obj := ⟨.type "builtin_function_or_method", none, .fields #[.builtin "object.__init_subclass__", .ref 139], #[]⟩
noncomputable def hdT3 (P : Params) : BT := (.node (y0v0 P) (.node (y1v0 P) (.node (y3v3 P) (.node y7v0 (.node y15v0 (.node y31v0 (.node o63 (.node y127v3 .nil .nil) .nil) (.node y95v2 .nil .nil)) (.node y47v2 (.node y79v2 .nil .nil) (.node (o111 P) .nil .nil))) (.node y23v0 (.node y39v2 (.node y71v2 (.node y135v3 .nil .nil) .nil) (.node y103v3 .nil .nil)) (.node o55 (.node y87v2 .nil .nil) (.node y119v3 .nil .nil)))) (.node (y11v0 P) (.node y19v0 (.node y35v3 (.node o67 (.node y131v3 .nil .nil) .nil) (.node y99v3 .nil .nil)) (.node y51v2 (.node y83v2 .nil .nil) (.node y115v3 .nil .nil))) (.node y27v0 (.node y43v2 (.node y75v2 (.node y139v3 .nil .nil) .nil) (.node y107v3 .nil .nil)) (.node y59v2 (.node (y91v2 P) .nil .nil) (.node y123v3 .nil .nil))))) (.node y5v0 (.node y9v0 (.node y17v0 (.node y33v0 (.node (y65v2 P) (.node y129v3 .nil .nil) .nil) (.node y97v3 .nil .nil)) (.node o49 (.node o81 .nil .nil) (.node o113 .nil .nil))) (.node y25v0 (.node y41v2 (.node y73v2 (.node y137v3 .nil .nil) .nil) (.node y105v3 .nil .nil)) (.node y57v2 (.node y89v2 .nil .nil) (.node y121v3 .nil .nil)))) (.node (y13v0 P) (.node (y21v0 P) (.node y37v1 (.node y69v2 (.node y133v3 .nil .nil) .nil) (.node y101v3 .nil .nil)) (.node y53v2 (.node (y85v2 P) .nil .nil) (.node y117v3 .nil .nil))) (.node (y29v0 P) (.node y45v2 (.node y77v2 (.node y141v3 .nil .nil) .nil) (.node o109 .nil .nil)) (.node y61v2 (.node y93v2 .nil .nil) (.node y125v3 .nil .nil)))))) (.node (y2v2 P) (.node y4v0 (.node y8v0 (.node y16v0 (.node (y32v0 P) (.node y64v2 (.node y128v3 .nil .nil) .nil) (.node y96v3 .nil .nil)) (.node o48 (.node y80v2 .nil .nil) (.node o112 .nil .nil))) (.node y24v0 (.node y40v2 (.node y72v2 (.node y136v3 .nil .nil) .nil) (.node y104v3 .nil .nil)) (.node o56 (.node y88v2 .nil .nil) (.node (y120v3 P) .nil .nil)))) (.node y12v0 (.node (y20v0 P) (.node y36v1 (.node o68 (.node (y132v3 P) .nil .nil) .nil) (.node y100v3 .nil .nil)) (.node y52v2 (.node y84v2 .nil .nil) (.node y116v3 .nil .nil))) (.node y28v0 (.node y44v2 (.node y76v2 (.node y140v3 .nil .nil) .nil) (.node o108 .nil .nil)) (.node y60v2 (.node y92v2 .nil .nil) (.node y124v3 .nil .nil))))) (.node (y6v0 P) (.node y10v0 (.node y18v0 (.node y34v1 (.node y66v2 (.node y130v3 .nil .nil) .nil) (.node (y98v3 P) .nil .nil)) (.node y50v2 (.node o82 .nil .nil) (.node y114v3 .nil .nil))) (.node y26v0 (.node y42v2 (.node y74v2 (.node (o138 P) .nil .nil) .nil) (.node y106v3 .nil .nil)) (.node y58v2 (.node y90v2 .nil .nil) (.node y122v3 .nil .nil)))) (.node y14v0 (.node y22v0 (.node y38v2 (.node y70v2 (.node y134v3 .nil .nil) .nil) (.node y102v3 .nil .nil)) (.node y54v2 (.node y86v2 .nil .nil) (.node y118v3 .nil .nil))) (.node y30v0 (.node (y46v2 P) (.node y78v2 .nil .nil) (.node y110v3 .nil .nil)) (.node o62 (.node y94v2 .nil .nil) (.node (y126v3 P) .nil .nil)))))))
noncomputable def y3v4 (P : Params) : Obj := ⟨.type "dict", none, .dict #[en P (Str.ofString "__name__") 165 (.str (Str.ofString "io") 419), en P (Str.ofString "__doc__") 166 (.none), en P (Str.ofString "__package__") 167 (.none), en P (Str.ofString "__loader__") 168 (.builtin "__main__.__loader__#opaque"), en P (Str.ofString "__spec__") 169 (.none), en P (Str.ofString "__annotations__") 170 (.ref 6), en P (Str.ofString "__builtins__") 171 (.ref 4), en P (Str.ofString "__file__") 173 (.str (Str.ofString "/claim/cut.py") 172), en P (Str.ofString "__cached__") 174 (.none), en P (Str.ofString "_sre") 275 (.ref 12), en P (Str.ofString "deque") 317 (.type "collections.deque"), en P (Str.ofString "_wall") 330 (.ref 44), en P (Str.ofString "IPV4_RE") 362 (.ref 49), en P (Str.ofString "liberal_is_HDN") 369 (.ref 56), en P (Str.ofString "user_domain_match") 378 (.ref 63), en P (Str.ofString "_twin_re_1") 418 (.ref 68), en P (Str.ofString "_whence") 428 (.ref 75), en P (Str.ofString "_index") 436 (.ref 82), en P (Str.ofString "UnsupportedOperation") 458 (.ref 92), en P (Str.ofString "IOBase") 490 (.ref 112), en P (Str.ofString "BufferedIOBase") 508 (.ref 127), en P (Str.ofString "TextIOBase") 526 (.ref 139), en P (Str.ofString "BytesIO") 788 (.ref 369)] 23, #[]⟩
noncomputable def y35v4 : Obj := ⟨.none, none, .fields #[.int (3) 0, .int (0) 0, .ref 43, .int (8) 0, .int (0) 0, .ref 55, .int (12) 0, .int (0) 0, .ref 62, .int (27) 0, .int (0) 0, .ref 74, .int (32) 0, .int (0) 0, .ref 81, .int (39) 0, .int (0) 0, .ref 88, .int (41) 0, .int (0) 0, .ref 101, .int (48) 0, .int (0) 0, .ref 123, .int (50) 0, .int (0) 0, .ref 135, .int (52) 0, .int (0) 0, .ref 147], #[]⟩
noncomputable def y127v4 : Obj := ⟨.type "type", none, .cls ⟨(Str.ofString "BufferedIOBase"), [.ref 112], [.ref 127, .ref 112, .type "object"], 126, (Str.ofString "BufferedIOBase"), true, [], [.ref 369], false, none, false⟩, #[some (.ref 118), none, some (.str (Str.ofString "BufferedIOBase") 491), some (.str (Str.ofString "BufferedIOBase") 499), some (.none), some (.bool true)]⟩
noncomputable def y142v4 : Obj := ⟨.type "tuple", none, .seq #[.ref 127] 0, #[]⟩
noncomputable def y143v4 : Obj := ⟨.type "builtin_function_or_method", none, .fields #[.builtin "type.__prepare__", .type "type"], #[]⟩
noncomputable def y144v4 (P : Params) : Obj := ⟨.type "dict", none, .dict #[en P (Str.ofString "__module__") 534 (.str (Str.ofString "_io") 539), en P (Str.ofString "__qualname__") 536 (.str (Str.ofString "BytesIO") 535), en P (Str.ofString "__firstlineno__") 538 (.int (52) 537), en P (Str.ofString "__init__") 548 (.ref 156), en P (Str.ofString "_BytesIO__check") 555 (.ref 163), en P (Str.ofString "_BytesIO__line") 566 (.ref 170), en P (Str.ofString "closed") 574 (.ref 178), en P (Str.ofString "close") 581 (.ref 185), en P (Str.ofString "__enter__") 588 (.ref 192), en P (Str.ofString "__exit__") 596 (.ref 199), en P (Str.ofString "readable") 603 (.ref 206), en P (Str.ofString "writable") 610 (.ref 213), en P (Str.ofString "seekable") 617 (.ref 220), en P (Str.ofString "isatty") 624 (.ref 227), en P (Str.ofString "flush") 631 (.ref 234), en P (Str.ofString "fileno") 638 (.ref 241), en P (Str.ofString "detach") 645 (.ref 248), en P (Str.ofString "getvalue") 652 (.ref 255), en P (Str.ofString "getbuffer") 659 (.ref 262), en P (Str.ofString "tell") 666 (.ref 269), en P (Str.ofString "seek") 676 (.ref 277), en P (Str.ofString "truncate") 684 (.ref 285), en P (Str.ofString "read") 696 (.ref 293), en P (Str.ofString "read1") 706 (.ref 301), en P (Str.ofString "readinto") 716 (.ref 308), en P (Str.ofString "readinto1") 724 (.ref 315), en P (Str.ofString "readline") 734 (.ref 323), en P (Str.ofString "readlines") 742 (.ref 331), en P (Str.ofString "__iter__") 749 (.ref 338), en P (Str.ofString "__next__") 757 (.ref 345), en P (Str.ofString "write") 767 (.ref 352), en P (Str.ofString "writelines") 775 (.ref 359), en P (Str.ofString "__repr__") 782 (.ref 366), en P (Str.ofString "__static_attributes__") 785 (.ref 367)] 34, #[]⟩
noncomputable def y145v4 : Obj := ⟨.type "tuple", none, .seq #[] 0, #[]⟩
noncomputable def y146v4 : Obj := ⟨.none, none, .fields #[.int (55) 0, .int (4) 0, .ref 155, .int (61) 0, .int (4) 0, .ref 162, .int (65) 0, .int (4) 0, .ref 169, .int (79) 0, .int (4) 0, .ref 176, .int (82) 0, .int (4) 0, .ref 184, .int (85) 0, .int (4) 0, .ref 191, .int (89) 0, .int (4) 0, .ref 198, .int (92) 0, .int (4) 0, .ref 205, .int (96) 0, .int (4) 0, .ref 212, .int (100) 0, .int (4) 0, .ref 219, .int (104) 0, .int (4) 0, .ref 226, .int (108) 0, .int (4) 0, .ref 233, .int (111) 0, .int (4) 0, .ref 240, .int (114) 0, .int (4) 0, .ref 247, .int (117) 0, .int (4) 0, .ref 254, .int (120) 0, .int (4) 0, .ref 261, .int (123) 0, .int (4) 0, .ref 268, .int (127) 0, .int (4) 0, .ref 276, .int (144) 0, .int (4) 0, .ref 284, .int (147) 0, .int (4) 0, .ref 292, .int (161) 0, .int (4) 0, .ref 300, .int (164) 0, .int (4) 0, .ref 307, .int (178) 0, .int (4) 0, .ref 314, .int (181) 0, .int (4) 0, .ref 322, .int (188) 0, .int (4) 0, .ref 330, .int (191) 0, .int (4) 0, .ref 337, .int (194) 0, .int (4) 0, .ref 344, .int (201) 0, .int (4) 0, .ref 351, .int (217) 0, .int (4) 0, .ref 358, .int (220) 0, .int (4) 0, .ref 365], #[]⟩
noncomputable def y147v4 : Obj := ⟨.type "code", none, .fields #[.str (Str.ofString "BytesIO") 529, .str (Str.ofString "BytesIO") 530, .str (Str.ofString "/claim/cut.py") 531, .int (52) 0, .int (0) 0, .int (0) 0, .int (0) 0, .int (0) 0, .ref 145, .bool false, .int (318) 0, .ref 146, .none, .none, .none, .none, .int (532) 0, .int (52) 0, .str (Str.ofString "/claim/cut.py") 533], #[]⟩
noncomputable def y148v4 : Obj := ⟨.type "frame", none, .plain, #[some (.ref 147), some (.ref 3), some (.ref 144), none, some (.str (Str.ofString "io") 419), none, some (.ref 0)]⟩
noncomputable def y149v4 : Obj := ⟨.type "tuple", none, .seq #[.none] 0, #[]⟩
noncomputable def y150v4 : Obj := ⟨.type "tuple", none, .seq #[] 0, #[]⟩
noncomputable def y151v4 : Obj := ⟨.none, none, .fields #[], #[]⟩
noncomputable def y152v4 : Obj := ⟨.type "tuple", none, .seq #[.str (Str.ofString "self") 544, .str (Str.ofString "initial_bytes") 545] 0, #[]⟩
noncomputable def y153v4 : Obj := ⟨.type "tuple", none, .seq #[] 0, #[]⟩
noncomputable def y154v4 : Obj := fnR (mAt 15 1) (Str.ofString "BytesIO.__init__")
noncomputable def y155v4 : Obj := ⟨.type "code", none, .fields #[.str (Str.ofString "__init__") 541, .str (Str.ofString "BytesIO.__init__") 542, .str (Str.ofString "/claim/cut.py") 543, .int (55) 0, .int (2) 0, .int (0) 0, .int (0) 0, .int (3) 0, .ref 150, .bool true, .int (318) 0, .ref 151, .none, .ref 152, .ref 153, .ref 154, .int (546) 0, .int (55) 0, .str (Str.ofString "/claim/cut.py") 547], #[]⟩
noncomputable def y156v4 : Obj := fnO (mAt 15 1) (Str.ofString "BytesIO.__init__") (.ref 149) (.none) (.none) (.str (Str.ofString "io") 419) (.ref 155) (.none)
noncomputable def y157v4 : Obj := ⟨.type "tuple", none, .seq #[] 0, #[]⟩
noncomputable def y158v4 : Obj := ⟨.none, none, .fields #[], #[]⟩
noncomputable def y159v4 : Obj := ⟨.type "tuple", none, .seq #[.str (Str.ofString "self") 552] 0, #[]⟩
noncomputable def y160v4 : Obj := ⟨.type "tuple", none, .seq #[] 0, #[]⟩
noncomputable def y161v4 : Obj := fnR (mAt 15 2) (Str.ofString "BytesIO.__check")
noncomputable def y162v4 : Obj := ⟨.type "code", none, .fields #[.str (Str.ofString "__check") 549, .str (Str.ofString "BytesIO.__check") 550, .str (Str.ofString "/claim/cut.py") 551, .int (61) 0, .int (1) 0, .int (0) 0, .int (0) 0, .int (3) 0, .ref 157, .bool true, .int (318) 0, .ref 158, .none, .ref 159, .ref 160, .ref 161, .int (553) 0, .int (61) 0, .str (Str.ofString "/claim/cut.py") 554], #[]⟩
noncomputable def y163v4 : Obj := fnO (mAt 15 2) (Str.ofString "BytesIO.__check") (.none) (.none) (.none) (.str (Str.ofString "io") 419) (.ref 162) (.none)
noncomputable def y164v4 : Obj := ⟨.type "tuple", none, .seq #[] 0, #[]⟩
noncomputable def y165v4 : Obj := ⟨.none, none, .fields #[], #[]⟩
noncomputable def y166v4 : Obj := ⟨.type "tuple", none, .seq #[.str (Str.ofString "self") 559, .str (Str.ofString "limit") 560, .str (Str.ofString "start") 561, .str (Str.ofString "stop") 562, .str (Str.ofString "i") 563] 0, #[]⟩
noncomputable def y167v4 : Obj := ⟨.type "tuple", none, .seq #[] 0, #[]⟩
noncomputable def y168v4 : Obj := fnR (mAt 15 3) (Str.ofString "BytesIO.__line")
noncomputable def y169v4 : Obj := ⟨.type "code", none, .fields #[.str (Str.ofString "__line") 556, .str (Str.ofString "BytesIO.__line") 557, .str (Str.ofString "/claim/cut.py") 558, .int (65) 0, .int (2) 0, .int (0) 0, .int (0) 0, .int (3) 0, .ref 164, .bool true, .int (318) 0, .ref 165, .none, .ref 166, .ref 167, .ref 168, .int (564) 0, .int (65) 0, .str (Str.ofString "/claim/cut.py") 565], #[]⟩
noncomputable def y170v4 : Obj := fnO (mAt 15 3) (Str.ofString "BytesIO.__line") (.none) (.none) (.none) (.str (Str.ofString "io") 419) (.ref 169) (.none)
noncomputable def y171v4 : Obj := ⟨.type "tuple", none, .seq #[] 0, #[]⟩
noncomputable def y172v4 : Obj := ⟨.none, none, .fields #[], #[]⟩
noncomputable def y173v4 : Obj := ⟨.type "tuple", none, .seq #[.str (Str.ofString "self") 570] 0, #[]⟩
noncomputable def y174v4 : Obj := ⟨.type "tuple", none, .seq #[] 0, #[]⟩
noncomputable def y175v4 : Obj := fnR (mAt 15 4) (Str.ofString "BytesIO.closed")
noncomputable def y176v4 : Obj := ⟨.type "code", none, .fields #[.str (Str.ofString "closed") 567, .str (Str.ofString "BytesIO.closed") 568, .str (Str.ofString "/claim/cut.py") 569, .int (78) 0, .int (1) 0, .int (0) 0, .int (0) 0, .int (3) 0, .ref 171, .bool true, .int (318) 0, .ref 172, .none, .ref 173, .ref 174, .ref 175, .int (571) 0, .int (78) 0, .str (Str.ofString "/claim/cut.py") 572], #[]⟩
noncomputable def y177v4 : Obj := fnO (mAt 15 4) (Str.ofString "BytesIO.closed") (.none) (.none) (.none) (.str (Str.ofString "io") 419) (.ref 176) (.none)
noncomputable def y178v4 : Obj := ⟨.type "property", none, .fields #[.ref 177, .none, .none, .none, .str (Str.ofString "closed") 574, .bool false], #[]⟩
noncomputable def y179v4 : Obj := ⟨.type "tuple", none, .seq #[] 0, #[]⟩
noncomputable def y180v4 : Obj := ⟨.none, none, .fields #[], #[]⟩
noncomputable def y181v4 : Obj := ⟨.type "tuple", none, .seq #[.str (Str.ofString "self") 578] 0, #[]⟩
noncomputable def y182v4 : Obj := ⟨.type "tuple", none, .seq #[] 0, #[]⟩
noncomputable def y183v4 : Obj := fnR (mAt 15 5) (Str.ofString "BytesIO.close")
noncomputable def y184v4 : Obj := ⟨.type "code", none, .fields #[.str (Str.ofString "close") 575, .str (Str.ofString "BytesIO.close") 576, .str (Str.ofString "/claim/cut.py") 577, .int (82) 0, .int (1) 0, .int (0) 0, .int (0) 0, .int (3) 0, .ref 179, .bool true, .int (318) 0, .ref 180, .none, .ref 181, .ref 182, .ref 183, .int (579) 0, .int (82) 0, .str (Str.ofString "/claim/cut.py") 580], #[]⟩
noncomputable def y185v4 : Obj := fnO (mAt 15 5) (Str.ofString "BytesIO.close") (.none) (.none) (.none) (.str (Str.ofString "io") 419) (.ref 184) (.none)
noncomputable def y186v4 : Obj := ⟨.type "tuple", none, .seq #[] 0, #[]⟩
noncomputable def y187v4 : Obj := ⟨.none, none, .fields #[], #[]⟩
noncomputable def y188v4 : Obj := ⟨.type "tuple", none, .seq #[.str (Str.ofString "self") 585] 0, #[]⟩
noncomputable def y189v4 : Obj := ⟨.type "tuple", none, .seq #[] 0, #[]⟩
noncomputable def y190v4 : Obj := fnR (mAt 15 6) (Str.ofString "BytesIO.__enter__")
noncomputable def y191v4 : Obj := ⟨.type "code", none, .fields #[.str (Str.ofString "__enter__") 582, .str (Str.ofString "BytesIO.__enter__") 583, .str (Str.ofString "/claim/cut.py") 584, .int (85) 0, .int (1) 0, .int (0) 0, .int (0) 0, .int (3) 0, .ref 186, .bool true, .int (318) 0, .ref 187, .none, .ref 188, .ref 189, .ref 190, .int (586) 0, .int (85) 0, .str (Str.ofString "/claim/cut.py") 587], #[]⟩
noncomputable def y192v4 : Obj := fnO (mAt 15 6) (Str.ofString "BytesIO.__enter__") (.none) (.none) (.none) (.str (Str.ofString "io") 419) (.ref 191) (.none)
noncomputable def y193v4 : Obj := ⟨.type "tuple", none, .seq #[] 0, #[]⟩
noncomputable def y194v4 : Obj := ⟨.none, none, .fields #[], #[]⟩
noncomputable def y195v4 : Obj := ⟨.type "tuple", none, .seq #[.str (Str.ofString "self") 592, .str (Str.ofString "args") 593] 0, #[]⟩
noncomputable def y196v4 : Obj := ⟨.type "tuple", none, .seq #[] 0, #[]⟩
noncomputable def y197v4 : Obj := fnR (mAt 15 7) (Str.ofString "BytesIO.__exit__")
noncomputable def y198v4 : Obj := ⟨.type "code", none, .fields #[.str (Str.ofString "__exit__") 589, .str (Str.ofString "BytesIO.__exit__") 590, .str (Str.ofString "/claim/cut.py") 591, .int (89) 0, .int (1) 0, .int (0) 0, .int (0) 0, .int (7) 0, .ref 193, .bool true, .int (318) 0, .ref 194, .none, .ref 195, .ref 196, .ref 197, .int (594) 0, .int (89) 0, .str (Str.ofString "/claim/cut.py") 595], #[]⟩
noncomputable def y199v4 : Obj := fnO (mAt 15 7) (Str.ofString "BytesIO.__exit__") (.none) (.none) (.none) (.str (Str.ofString "io") 419) (.ref 198) (.none)
noncomputable def y200v4 : Obj := ⟨.type "tuple", none, .seq #[] 0, #[]⟩
noncomputable def y201v4 : Obj := ⟨.none, none, .fields #[], #[]⟩
noncomputable def y202v4 : Obj := ⟨.type "tuple", none, .seq #[.str (Str.ofString "self") 600] 0, #[]⟩
noncomputable def y203v4 : Obj := ⟨.type "tuple", none, .seq #[] 0, #[]⟩
noncomputable def y204v4 : Obj := fnR (mAt 15 8) (Str.ofString "BytesIO.readable")
noncomputable def y205v4 : Obj := ⟨.type "code", none, .fields #[.str (Str.ofString "readable") 597, .str (Str.ofString "BytesIO.readable") 598, .str (Str.ofString "/claim/cut.py") 599, .int (92) 0, .int (1) 0, .int (0) 0, .int (0) 0, .int (3) 0, .ref 200, .bool true, .int (318) 0, .ref 201, .none, .ref 202, .ref 203, .ref 204, .int (601) 0, .int (92) 0, .str (Str.ofString "/claim/cut.py") 602], #[]⟩
noncomputable def y206v4 : Obj := fnO (mAt 15 8) (Str.ofString "BytesIO.readable") (.none) (.none) (.none) (.str (Str.ofString "io") 419) (.ref 205) (.none)
noncomputable def y207v4 : Obj := ⟨.type "tuple", none, .seq #[] 0, #[]⟩
noncomputable def y208v4 : Obj := ⟨.none, none, .fields #[], #[]⟩
noncomputable def y209v4 : Obj := ⟨.type "tuple", none, .seq #[.str (Str.ofString "self") 607] 0, #[]⟩
noncomputable def y210v4 : Obj := ⟨.type "tuple", none, .seq #[] 0, #[]⟩
noncomputable def y211v4 : Obj := fnR (mAt 15 9) (Str.ofString "BytesIO.writable")
noncomputable def y212v4 : Obj := ⟨.type "code", none, .fields #[.str (Str.ofString "writable") 604, .str (Str.ofString "BytesIO.writable") 605, .str (Str.ofString "/claim/cut.py") 606, .int (96) 0, .int (1) 0, .int (0) 0, .int (0) 0, .int (3) 0, .ref 207, .bool true, .int (318) 0, .ref 208, .none, .ref 209, .ref 210, .ref 211, .int (608) 0, .int (96) 0, .str (Str.ofString "/claim/cut.py") 609], #[]⟩
noncomputable def y213v4 : Obj := fnO (mAt 15 9) (Str.ofString "BytesIO.writable") (.none) (.none) (.none) (.str (Str.ofString "io") 419) (.ref 212) (.none)
noncomputable def y214v4 : Obj := ⟨.type "tuple", none, .seq #[] 0, #[]⟩
noncomputable def y215v4 : Obj := ⟨.none, none, .fields #[], #[]⟩
noncomputable def y216v4 : Obj := ⟨.type "tuple", none, .seq #[.str (Str.ofString "self") 614] 0, #[]⟩
noncomputable def y217v4 : Obj := ⟨.type "tuple", none, .seq #[] 0, #[]⟩
noncomputable def y218v4 : Obj := fnR (mAt 15 10) (Str.ofString "BytesIO.seekable")
noncomputable def y219v4 : Obj := ⟨.type "code", none, .fields #[.str (Str.ofString "seekable") 611, .str (Str.ofString "BytesIO.seekable") 612, .str (Str.ofString "/claim/cut.py") 613, .int (100) 0, .int (1) 0, .int (0) 0, .int (0) 0, .int (3) 0, .ref 214, .bool true, .int (318) 0, .ref 215, .none, .ref 216, .ref 217, .ref 218, .int (615) 0, .int (100) 0, .str (Str.ofString "/claim/cut.py") 616], #[]⟩
noncomputable def y220v4 : Obj := fnO (mAt 15 10) (Str.ofString "BytesIO.seekable") (.none) (.none) (.none) (.str (Str.ofString "io") 419) (.ref 219) (.none)
noncomputable def y221v4 : Obj := ⟨.type "tuple", none, .seq #[] 0, #[]⟩
noncomputable def y222v4 : Obj := ⟨.none, none, .fields #[], #[]⟩
noncomputable def y223v4 : Obj := ⟨.type "tuple", none, .seq #[.str (Str.ofString "self") 621] 0, #[]⟩
noncomputable def y224v4 : Obj := ⟨.type "tuple", none, .seq #[] 0, #[]⟩
noncomputable def y225v4 : Obj := fnR (mAt 15 11) (Str.ofString "BytesIO.isatty")
noncomputable def y226v4 : Obj := ⟨.type "code", none, .fields #[.str (Str.ofString "isatty") 618, .str (Str.ofString "BytesIO.isatty") 619, .str (Str.ofString "/claim/cut.py") 620, .int (104) 0, .int (1) 0, .int (0) 0, .int (0) 0, .int (3) 0, .ref 221, .bool true, .int (318) 0, .ref 222, .none, .ref 223, .ref 224, .ref 225, .int (622) 0, .int (104) 0, .str (Str.ofString "/claim/cut.py") 623], #[]⟩
noncomputable def y227v4 : Obj := fnO (mAt 15 11) (Str.ofString "BytesIO.isatty") (.none) (.none) (.none) (.str (Str.ofString "io") 419) (.ref 226) (.none)
noncomputable def y228v4 : Obj := ⟨.type "tuple", none, .seq #[] 0, #[]⟩
noncomputable def y229v4 : Obj := ⟨.none, none, .fields #[], #[]⟩
noncomputable def y230v4 : Obj := ⟨.type "tuple", none, .seq #[.str (Str.ofString "self") 628] 0, #[]⟩
noncomputable def y231v4 : Obj := ⟨.type "tuple", none, .seq #[] 0, #[]⟩
noncomputable def y232v4 : Obj := fnR (mAt 15 12) (Str.ofString "BytesIO.flush")
noncomputable def y233v4 : Obj := ⟨.type "code", none, .fields #[.str (Str.ofString "flush") 625, .str (Str.ofString "BytesIO.flush") 626, .str (Str.ofString "/claim/cut.py") 627, .int (108) 0, .int (1) 0, .int (0) 0, .int (0) 0, .int (3) 0, .ref 228, .bool true, .int (318) 0, .ref 229, .none, .ref 230, .ref 231, .ref 232, .int (629) 0, .int (108) 0, .str (Str.ofString "/claim/cut.py") 630], #[]⟩
noncomputable def y234v4 : Obj := fnO (mAt 15 12) (Str.ofString "BytesIO.flush") (.none) (.none) (.none) (.str (Str.ofString "io") 419) (.ref 233) (.none)
noncomputable def y235v4 : Obj := ⟨.type "tuple", none, .seq #[] 0, #[]⟩
noncomputable def y236v4 : Obj := ⟨.none, none, .fields #[], #[]⟩
noncomputable def y237v4 : Obj := ⟨.type "tuple", none, .seq #[.str (Str.ofString "self") 635] 0, #[]⟩
noncomputable def y238v4 : Obj := ⟨.type "tuple", none, .seq #[] 0, #[]⟩
noncomputable def y239v4 : Obj := fnR (mAt 15 13) (Str.ofString "BytesIO.fileno")
noncomputable def y240v4 : Obj := ⟨.type "code", none, .fields #[.str (Str.ofString "fileno") 632, .str (Str.ofString "BytesIO.fileno") 633, .str (Str.ofString "/claim/cut.py") 634, .int (111) 0, .int (1) 0, .int (0) 0, .int (0) 0, .int (3) 0, .ref 235, .bool true, .int (318) 0, .ref 236, .none, .ref 237, .ref 238, .ref 239, .int (636) 0, .int (111) 0, .str (Str.ofString "/claim/cut.py") 637], #[]⟩
noncomputable def y241v4 : Obj := fnO (mAt 15 13) (Str.ofString "BytesIO.fileno") (.none) (.none) (.none) (.str (Str.ofString "io") 419) (.ref 240) (.none)
noncomputable def y242v4 : Obj := ⟨.type "tuple", none, .seq #[] 0, #[]⟩
noncomputable def y243v4 : Obj := ⟨.none, none, .fields #[], #[]⟩
noncomputable def y244v4 : Obj := ⟨.type "tuple", none, .seq #[.str (Str.ofString "self") 642] 0, #[]⟩
noncomputable def y245v4 : Obj := ⟨.type "tuple", none, .seq #[] 0, #[]⟩
noncomputable def y246v4 : Obj := fnR (mAt 15 14) (Str.ofString "BytesIO.detach")
noncomputable def y247v4 : Obj := ⟨.type "code", none, .fields #[.str (Str.ofString "detach") 639, .str (Str.ofString "BytesIO.detach") 640, .str (Str.ofString "/claim/cut.py") 641, .int (114) 0, .int (1) 0, .int (0) 0, .int (0) 0, .int (3) 0, .ref 242, .bool true, .int (318) 0, .ref 243, .none, .ref 244, .ref 245, .ref 246, .int (643) 0, .int (114) 0, .str (Str.ofString "/claim/cut.py") 644], #[]⟩
noncomputable def y248v4 : Obj := fnO (mAt 15 14) (Str.ofString "BytesIO.detach") (.none) (.none) (.none) (.str (Str.ofString "io") 419) (.ref 247) (.none)
noncomputable def y249v4 : Obj := ⟨.type "tuple", none, .seq #[] 0, #[]⟩
noncomputable def y250v4 : Obj := ⟨.none, none, .fields #[], #[]⟩
noncomputable def y251v4 : Obj := ⟨.type "tuple", none, .seq #[.str (Str.ofString "self") 649] 0, #[]⟩
noncomputable def y252v4 : Obj := ⟨.type "tuple", none, .seq #[] 0, #[]⟩
noncomputable def y253v4 : Obj := fnR (mAt 15 15) (Str.ofString "BytesIO.getvalue")
noncomputable def y254v4 : Obj := ⟨.type "code", none, .fields #[.str (Str.ofString "getvalue") 646, .str (Str.ofString "BytesIO.getvalue") 647, .str (Str.ofString "/claim/cut.py") 648, .int (117) 0, .int (1) 0, .int (0) 0, .int (0) 0, .int (3) 0, .ref 249, .bool true, .int (318) 0, .ref 250, .none, .ref 251, .ref 252, .ref 253, .int (650) 0, .int (117) 0, .str (Str.ofString "/claim/cut.py") 651], #[]⟩
noncomputable def y255v4 : Obj := fnO (mAt 15 15) (Str.ofString "BytesIO.getvalue") (.none) (.none) (.none) (.str (Str.ofString "io") 419) (.ref 254) (.none)
noncomputable def y256v4 : Obj := ⟨.type "tuple", none, .seq #[] 0, #[]⟩
noncomputable def y257v4 : Obj := ⟨.none, none, .fields #[], #[]⟩
noncomputable def y258v4 : Obj := ⟨.type "tuple", none, .seq #[.str (Str.ofString "self") 656] 0, #[]⟩
noncomputable def y259v4 : Obj := ⟨.type "tuple", none, .seq #[] 0, #[]⟩
noncomputable def y260v4 : Obj := fnR (mAt 15 16) (Str.ofString "BytesIO.getbuffer")
noncomputable def y261v4 : Obj := ⟨.type "code", none, .fields #[.str (Str.ofString "getbuffer") 653, .str (Str.ofString "BytesIO.getbuffer") 654, .str (Str.ofString "/claim/cut.py") 655, .int (120) 0, .int (1) 0, .int (0) 0, .int (0) 0, .int (3) 0, .ref 256, .bool true, .int (318) 0, .ref 257, .none, .ref 258, .ref 259, .ref 260, .int (657) 0, .int (120) 0, .str (Str.ofString "/claim/cut.py") 658], #[]⟩
noncomputable def y262v4 : Obj := fnO (mAt 15 16) (Str.ofString "BytesIO.getbuffer") (.none) (.none) (.none) (.str (Str.ofString "io") 419) (.ref 261) (.none)
noncomputable def y263v4 : Obj := ⟨.type "tuple", none, .seq #[] 0, #[]⟩
noncomputable def y264v4 : Obj := ⟨.none, none, .fields #[], #[]⟩
noncomputable def y265v4 : Obj := ⟨.type "tuple", none, .seq #[.str (Str.ofString "self") 663] 0, #[]⟩
noncomputable def y266v4 : Obj := ⟨.type "tuple", none, .seq #[] 0, #[]⟩
noncomputable def y267v4 : Obj := fnR (mAt 15 17) (Str.ofString "BytesIO.tell")
noncomputable def y268v4 : Obj := ⟨.type "code", none, .fields #[.str (Str.ofString "tell") 660, .str (Str.ofString "BytesIO.tell") 661, .str (Str.ofString "/claim/cut.py") 662, .int (123) 0, .int (1) 0, .int (0) 0, .int (0) 0, .int (3) 0, .ref 263, .bool true, .int (318) 0, .ref 264, .none, .ref 265, .ref 266, .ref 267, .int (664) 0, .int (123) 0, .str (Str.ofString "/claim/cut.py") 665], #[]⟩
noncomputable def y269v4 : Obj := fnO (mAt 15 17) (Str.ofString "BytesIO.tell") (.none) (.none) (.none) (.str (Str.ofString "io") 419) (.ref 268) (.none)
noncomputable def y270v4 : Obj := ⟨.type "tuple", none, .seq #[.int (0) 667] 0, #[]⟩
noncomputable def y271v4 : Obj := ⟨.type "tuple", none, .seq #[] 0, #[]⟩
noncomputable def y272v4 : Obj := ⟨.none, none, .fields #[], #[]⟩
noncomputable def y273v4 : Obj := ⟨.type "tuple", none, .seq #[.str (Str.ofString "self") 671, .str (Str.ofString "pos") 672, .str (Str.ofString "whence") 673] 0, #[]⟩
noncomputable def y274v4 : Obj := ⟨.type "tuple", none, .seq #[] 0, #[]⟩
noncomputable def y275v4 : Obj := fnR (mAt 15 18) (Str.ofString "BytesIO.seek")
noncomputable def y276v4 : Obj := ⟨.type "code", none, .fields #[.str (Str.ofString "seek") 668, .str (Str.ofString "BytesIO.seek") 669, .str (Str.ofString "/claim/cut.py") 670, .int (127) 0, .int (3) 0, .int (3) 0, .int (0) 0, .int (3) 0, .ref 271, .bool true, .int (318) 0, .ref 272, .none, .ref 273, .ref 274, .ref 275, .int (674) 0, .int (127) 0, .str (Str.ofString "/claim/cut.py") 675], #[]⟩
noncomputable def y277v4 : Obj := fnO (mAt 15 18) (Str.ofString "BytesIO.seek") (.ref 270) (.none) (.none) (.str (Str.ofString "io") 419) (.ref 276) (.none)
noncomputable def y278v4 : Obj := ⟨.type "tuple", none, .seq #[.none] 0, #[]⟩
noncomputable def y279v4 : Obj := ⟨.type "tuple", none, .seq #[] 0, #[]⟩
noncomputable def y280v4 : Obj := ⟨.none, none, .fields #[], #[]⟩
noncomputable def y281v4 : Obj := ⟨.type "tuple", none, .seq #[.str (Str.ofString "self") 680, .str (Str.ofString "size") 681] 0, #[]⟩
noncomputable def y282v4 : Obj := ⟨.type "tuple", none, .seq #[] 0, #[]⟩
noncomputable def y283v4 : Obj := fnR (mAt 15 19) (Str.ofString "BytesIO.truncate")
noncomputable def y284v4 : Obj := ⟨.type "code", none, .fields #[.str (Str.ofString "truncate") 677, .str (Str.ofString "BytesIO.truncate") 678, .str (Str.ofString "/claim/cut.py") 679, .int (144) 0, .int (2) 0, .int (2) 0, .int (0) 0, .int (3) 0, .ref 279, .bool true, .int (318) 0, .ref 280, .none, .ref 281, .ref 282, .ref 283, .int (682) 0, .int (144) 0, .str (Str.ofString "/claim/cut.py") 683], #[]⟩
noncomputable def y285v4 : Obj := fnO (mAt 15 19) (Str.ofString "BytesIO.truncate") (.ref 278) (.none) (.none) (.str (Str.ofString "io") 419) (.ref 284) (.none)
noncomputable def y286v4 : Obj := ⟨.type "tuple", none, .seq #[.int (-1) 686] 0, #[]⟩
noncomputable def y287v4 : Obj := ⟨.type "tuple", none, .seq #[] 0, #[]⟩
noncomputable def y288v4 : Obj := ⟨.none, none, .fields #[], #[]⟩
noncomputable def y289v4 : Obj := ⟨.type "tuple", none, .seq #[.str (Str.ofString "self") 690, .str (Str.ofString "size") 691, .str (Str.ofString "start") 692, .str (Str.ofString "stop") 693] 0, #[]⟩
noncomputable def y290v4 : Obj := ⟨.type "tuple", none, .seq #[] 0, #[]⟩
noncomputable def y291v4 : Obj := fnR (mAt 15 20) (Str.ofString "BytesIO.read")
noncomputable def y292v4 : Obj := ⟨.type "code", none, .fields #[.str (Str.ofString "read") 687, .str (Str.ofString "BytesIO.read") 688, .str (Str.ofString "/claim/cut.py") 689, .int (147) 0, .int (2) 0, .int (2) 0, .int (0) 0, .int (3) 0, .ref 287, .bool true, .int (318) 0, .ref 288, .none, .ref 289, .ref 290, .ref 291, .int (694) 0, .int (147) 0, .str (Str.ofString "/claim/cut.py") 695], #[]⟩
noncomputable def y293v4 : Obj := fnO (mAt 15 20) (Str.ofString "BytesIO.read") (.ref 286) (.none) (.none) (.str (Str.ofString "io") 419) (.ref 292) (.none)
noncomputable def y294v4 : Obj := ⟨.type "tuple", none, .seq #[.int (-1) 698] 0, #[]⟩
noncomputable def y295v4 : Obj := ⟨.type "tuple", none, .seq #[] 0, #[]⟩
noncomputable def y296v4 : Obj := ⟨.none, none, .fields #[], #[]⟩
noncomputable def y297v4 : Obj := ⟨.type "tuple", none, .seq #[.str (Str.ofString "self") 702, .str (Str.ofString "size") 703] 0, #[]⟩
noncomputable def y298v4 : Obj := ⟨.type "tuple", none, .seq #[] 0, #[]⟩
noncomputable def y299v4 : Obj := fnR (mAt 15 21) (Str.ofString "BytesIO.read1")
noncomputable def y300v4 : Obj := ⟨.type "code", none, .fields #[.str (Str.ofString "read1") 699, .str (Str.ofString "BytesIO.read1") 700, .str (Str.ofString "/claim/cut.py") 701, .int (161) 0, .int (2) 0, .int (2) 0, .int (0) 0, .int (3) 0, .ref 295, .bool true, .int (318) 0, .ref 296, .none, .ref 297, .ref 298, .ref 299, .int (704) 0, .int (161) 0, .str (Str.ofString "/claim/cut.py") 705], #[]⟩
noncomputable def y301v4 : Obj := fnO (mAt 15 21) (Str.ofString "BytesIO.read1") (.ref 294) (.none) (.none) (.str (Str.ofString "io") 419) (.ref 300) (.none)
noncomputable def y302v4 : Obj := ⟨.type "tuple", none, .seq #[] 0, #[]⟩
noncomputable def y303v4 : Obj := ⟨.none, none, .fields #[], #[]⟩
noncomputable def y304v4 : Obj := ⟨.type "tuple", none, .seq #[.str (Str.ofString "self") 710, .str (Str.ofString "buffer") 711, .str (Str.ofString "start") 712, .str (Str.ofString "n") 713] 0, #[]⟩
noncomputable def y305v4 : Obj := ⟨.type "tuple", none, .seq #[] 0, #[]⟩
noncomputable def y306v4 : Obj := fnR (mAt 15 22) (Str.ofString "BytesIO.readinto")
noncomputable def y307v4 : Obj := ⟨.type "code", none, .fields #[.str (Str.ofString "readinto") 707, .str (Str.ofString "BytesIO.readinto") 708, .str (Str.ofString "/claim/cut.py") 709, .int (164) 0, .int (2) 0, .int (2) 0, .int (0) 0, .int (3) 0, .ref 302, .bool true, .int (318) 0, .ref 303, .none, .ref 304, .ref 305, .ref 306, .int (714) 0, .int (164) 0, .str (Str.ofString "/claim/cut.py") 715], #[]⟩
noncomputable def y308v4 : Obj := fnO (mAt 15 22) (Str.ofString "BytesIO.readinto") (.none) (.none) (.none) (.str (Str.ofString "io") 419) (.ref 307) (.none)
noncomputable def y309v4 : Obj := ⟨.type "tuple", none, .seq #[] 0, #[]⟩
noncomputable def y310v4 : Obj := ⟨.none, none, .fields #[], #[]⟩
noncomputable def y311v4 : Obj := ⟨.type "tuple", none, .seq #[.str (Str.ofString "self") 720, .str (Str.ofString "buffer") 721] 0, #[]⟩
noncomputable def y312v4 : Obj := ⟨.type "tuple", none, .seq #[] 0, #[]⟩
noncomputable def y313v4 : Obj := fnR (mAt 15 23) (Str.ofString "BytesIO.readinto1")
noncomputable def y314v4 : Obj := ⟨.type "code", none, .fields #[.str (Str.ofString "readinto1") 717, .str (Str.ofString "BytesIO.readinto1") 718, .str (Str.ofString "/claim/cut.py") 719, .int (178) 0, .int (2) 0, .int (2) 0, .int (0) 0, .int (3) 0, .ref 309, .bool true, .int (318) 0, .ref 310, .none, .ref 311, .ref 312, .ref 313, .int (722) 0, .int (178) 0, .str (Str.ofString "/claim/cut.py") 723], #[]⟩
noncomputable def y315v4 : Obj := fnO (mAt 15 23) (Str.ofString "BytesIO.readinto1") (.none) (.none) (.none) (.str (Str.ofString "io") 419) (.ref 314) (.none)
noncomputable def y316v4 : Obj := ⟨.type "tuple", none, .seq #[.int (-1) 726] 0, #[]⟩
noncomputable def y317v4 : Obj := ⟨.type "tuple", none, .seq #[] 0, #[]⟩
noncomputable def y318v4 : Obj := ⟨.none, none, .fields #[], #[]⟩
noncomputable def y319v4 : Obj := ⟨.type "tuple", none, .seq #[.str (Str.ofString "self") 730, .str (Str.ofString "size") 731] 0, #[]⟩
noncomputable def y320v4 : Obj := ⟨.type "tuple", none, .seq #[] 0, #[]⟩
noncomputable def y321v4 : Obj := fnR (mAt 15 24) (Str.ofString "BytesIO.readline")
noncomputable def y322v4 : Obj := ⟨.type "code", none, .fields #[.str (Str.ofString "readline") 727, .str (Str.ofString "BytesIO.readline") 728, .str (Str.ofString "/claim/cut.py") 729, .int (181) 0, .int (2) 0, .int (2) 0, .int (0) 0, .int (3) 0, .ref 317, .bool true, .int (318) 0, .ref 318, .none, .ref 319, .ref 320, .ref 321, .int (732) 0, .int (181) 0, .str (Str.ofString "/claim/cut.py") 733], #[]⟩
noncomputable def y323v4 : Obj := fnO (mAt 15 24) (Str.ofString "BytesIO.readline") (.ref 316) (.none) (.none) (.str (Str.ofString "io") 419) (.ref 322) (.none)
noncomputable def y324v4 : Obj := ⟨.type "tuple", none, .seq #[.none] 0, #[]⟩
noncomputable def y325v4 : Obj := ⟨.type "tuple", none, .seq #[] 0, #[]⟩
noncomputable def y326v4 : Obj := ⟨.none, none, .fields #[], #[]⟩
noncomputable def y327v4 : Obj := ⟨.type "tuple", none, .seq #[.str (Str.ofString "self") 738, .str (Str.ofString "size") 739] 0, #[]⟩
noncomputable def y328v4 : Obj := ⟨.type "tuple", none, .seq #[] 0, #[]⟩
noncomputable def y329v4 : Obj := fnR (mAt 15 25) (Str.ofString "BytesIO.readlines")
noncomputable def y330v4 : Obj := ⟨.type "code", none, .fields #[.str (Str.ofString "readlines") 735, .str (Str.ofString "BytesIO.readlines") 736, .str (Str.ofString "/claim/cut.py") 737, .int (188) 0, .int (2) 0, .int (2) 0, .int (0) 0, .int (3) 0, .ref 325, .bool true, .int (318) 0, .ref 326, .none, .ref 327, .ref 328, .ref 329, .int (740) 0, .int (188) 0, .str (Str.ofString "/claim/cut.py") 741], #[]⟩
noncomputable def y331v4 : Obj := fnO (mAt 15 25) (Str.ofString "BytesIO.readlines") (.ref 324) (.none) (.none) (.str (Str.ofString "io") 419) (.ref 330) (.none)
noncomputable def y332v4 : Obj := ⟨.type "tuple", none, .seq #[] 0, #[]⟩
noncomputable def y333v4 : Obj := ⟨.none, none, .fields #[], #[]⟩
noncomputable def y334v4 : Obj := ⟨.type "tuple", none, .seq #[.str (Str.ofString "self") 746] 0, #[]⟩
noncomputable def y335v4 : Obj := ⟨.type "tuple", none, .seq #[] 0, #[]⟩
noncomputable def y336v4 : Obj := fnR (mAt 15 26) (Str.ofString "BytesIO.__iter__")
noncomputable def y337v4 : Obj := ⟨.type "code", none, .fields #[.str (Str.ofString "__iter__") 743, .str (Str.ofString "BytesIO.__iter__") 744, .str (Str.ofString "/claim/cut.py") 745, .int (191) 0, .int (1) 0, .int (0) 0, .int (0) 0, .int (3) 0, .ref 332, .bool true, .int (318) 0, .ref 333, .none, .ref 334, .ref 335, .ref 336, .int (747) 0, .int (191) 0, .str (Str.ofString "/claim/cut.py") 748], #[]⟩
noncomputable def y338v4 : Obj := fnO (mAt 15 26) (Str.ofString "BytesIO.__iter__") (.none) (.none) (.none) (.str (Str.ofString "io") 419) (.ref 337) (.none)
noncomputable def y339v4 : Obj := ⟨.type "tuple", none, .seq #[] 0, #[]⟩
noncomputable def y340v4 : Obj := ⟨.none, none, .fields #[], #[]⟩
noncomputable def y341v4 : Obj := ⟨.type "tuple", none, .seq #[.str (Str.ofString "self") 753, .str (Str.ofString "line") 754] 0, #[]⟩
noncomputable def y342v4 : Obj := ⟨.type "tuple", none, .seq #[] 0, #[]⟩
noncomputable def y343v4 : Obj := fnR (mAt 15 27) (Str.ofString "BytesIO.__next__")
noncomputable def y344v4 : Obj := ⟨.type "code", none, .fields #[.str (Str.ofString "__next__") 750, .str (Str.ofString "BytesIO.__next__") 751, .str (Str.ofString "/claim/cut.py") 752, .int (194) 0, .int (1) 0, .int (0) 0, .int (0) 0, .int (3) 0, .ref 339, .bool true, .int (318) 0, .ref 340, .none, .ref 341, .ref 342, .ref 343, .int (755) 0, .int (194) 0, .str (Str.ofString "/claim/cut.py") 756], #[]⟩
noncomputable def y345v4 : Obj := fnO (mAt 15 27) (Str.ofString "BytesIO.__next__") (.none) (.none) (.none) (.str (Str.ofString "io") 419) (.ref 344) (.none)
noncomputable def y346v4 : Obj := ⟨.type "tuple", none, .seq #[] 0, #[]⟩
noncomputable def y347v4 : Obj := ⟨.none, none, .fields #[], #[]⟩
noncomputable def y348v4 : Obj := ⟨.type "tuple", none, .seq #[.str (Str.ofString "self") 761, .str (Str.ofString "b") 762, .str (Str.ofString "n") 763, .str (Str.ofString "start") 764] 0, #[]⟩
noncomputable def y349v4 : Obj := ⟨.type "tuple", none, .seq #[] 0, #[]⟩
noncomputable def y350v4 : Obj := fnR (mAt 15 28) (Str.ofString "BytesIO.write")
noncomputable def y351v4 : Obj := ⟨.type "code", none, .fields #[.str (Str.ofString "write") 758, .str (Str.ofString "BytesIO.write") 759, .str (Str.ofString "/claim/cut.py") 760, .int (201) 0, .int (2) 0, .int (2) 0, .int (0) 0, .int (3) 0, .ref 346, .bool true, .int (318) 0, .ref 347, .none, .ref 348, .ref 349, .ref 350, .int (765) 0, .int (201) 0, .str (Str.ofString "/claim/cut.py") 766], #[]⟩
noncomputable def y352v4 : Obj := fnO (mAt 15 28) (Str.ofString "BytesIO.write") (.none) (.none) (.none) (.str (Str.ofString "io") 419) (.ref 351) (.none)
noncomputable def y353v4 : Obj := ⟨.type "tuple", none, .seq #[] 0, #[]⟩
noncomputable def y354v4 : Obj := ⟨.none, none, .fields #[], #[]⟩
noncomputable def y355v4 : Obj := ⟨.type "tuple", none, .seq #[.str (Str.ofString "self") 771, .str (Str.ofString "lines") 772] 0, #[]⟩
noncomputable def y356v4 : Obj := ⟨.type "tuple", none, .seq #[] 0, #[]⟩
noncomputable def y357v4 : Obj := fnR (mAt 15 29) (Str.ofString "BytesIO.writelines")
noncomputable def y358v4 : Obj := ⟨.type "code", none, .fields #[.str (Str.ofString "writelines") 768, .str (Str.ofString "BytesIO.writelines") 769, .str (Str.ofString "/claim/cut.py") 770, .int (217) 0, .int (2) 0, .int (2) 0, .int (0) 0, .int (3) 0, .ref 353, .bool true, .int (318) 0, .ref 354, .none, .ref 355, .ref 356, .ref 357, .int (773) 0, .int (217) 0, .str (Str.ofString "/claim/cut.py") 774], #[]⟩
noncomputable def y359v4 : Obj := fnO (mAt 15 29) (Str.ofString "BytesIO.writelines") (.none) (.none) (.none) (.str (Str.ofString "io") 419) (.ref 358) (.none)
noncomputable def y360v4 : Obj := ⟨.type "tuple", none, .seq #[] 0, #[]⟩
noncomputable def y361v4 : Obj := ⟨.none, none, .fields #[], #[]⟩
noncomputable def y362v4 : Obj := ⟨.type "tuple", none, .seq #[.str (Str.ofString "self") 779] 0, #[]⟩
noncomputable def y363v4 : Obj := ⟨.type "tuple", none, .seq #[] 0, #[]⟩
noncomputable def y364v4 : Obj := fnR (mAt 15 30) (Str.ofString "BytesIO.__repr__")
noncomputable def y365v4 : Obj := ⟨.type "code", none, .fields #[.str (Str.ofString "__repr__") 776, .str (Str.ofString "BytesIO.__repr__") 777, .str (Str.ofString "/claim/cut.py") 778, .int (220) 0, .int (1) 0, .int (0) 0, .int (0) 0, .int (3) 0, .ref 360, .bool true, .int (318) 0, .ref 361, .none, .ref 362, .ref 363, .ref 364, .int (780) 0, .int (220) 0, .str (Str.ofString "/claim/cut.py") 781], #[]⟩
noncomputable def y366v4 : Obj := fnO (mAt 15 30) (Str.ofString "BytesIO.__repr__") (.none) (.none) (.none) (.str (Str.ofString "io") 419) (.ref 365) (.none)
noncomputable def y367v4 : Obj := ⟨.type "tuple", none, .seq #[.str (Str.ofString "__buf") 783, .str (Str.ofString "__pos") 784] 0, #[]⟩
noncomputable def y368v4 (P : Params) : Obj := ⟨.type "dict", none, .dict #[en P (Str.ofString "__module__") 534 (.str (Str.ofString "_io") 539), en P (Str.ofString "__firstlineno__") 538 (.int (52) 537), en P (Str.ofString "__init__") 548 (.ref 156), en P (Str.ofString "_BytesIO__check") 555 (.ref 163), en P (Str.ofString "_BytesIO__line") 566 (.ref 170), en P (Str.ofString "closed") 574 (.ref 178), en P (Str.ofString "close") 581 (.ref 185), en P (Str.ofString "__enter__") 588 (.ref 192), en P (Str.ofString "__exit__") 596 (.ref 199), en P (Str.ofString "readable") 603 (.ref 206), en P (Str.ofString "writable") 610 (.ref 213), en P (Str.ofString "seekable") 617 (.ref 220), en P (Str.ofString "isatty") 624 (.ref 227), en P (Str.ofString "flush") 631 (.ref 234), en P (Str.ofString "fileno") 638 (.ref 241), en P (Str.ofString "detach") 645 (.ref 248), en P (Str.ofString "getvalue") 652 (.ref 255), en P (Str.ofString "getbuffer") 659 (.ref 262), en P (Str.ofString "tell") 666 (.ref 269), en P (Str.ofString "seek") 676 (.ref 277), en P (Str.ofString "truncate") 684 (.ref 285), en P (Str.ofString "read") 696 (.ref 293), en P (Str.ofString "read1") 706 (.ref 301), en P (Str.ofString "readinto") 716 (.ref 308), en P (Str.ofString "readinto1") 724 (.ref 315), en P (Str.ofString "readline") 734 (.ref 323), en P (Str.ofString "readlines") 742 (.ref 331), en P (Str.ofString "__iter__") 749 (.ref 338), en P (Str.ofString "__next__") 757 (.ref 345), en P (Str.ofString "write") 767 (.ref 352), en P (Str.ofString "writelines") 775 (.ref 359), en P (Str.ofString "__repr__") 782 (.ref 366), en P (Str.ofString "__static_attributes__") 785 (.ref 367), en P (Str.ofString "__doc__") 786 (.none)] 2, #[]⟩
noncomputable def y370v4 : Obj := ⟨.type "super", none, .fields #[.ref 369, .ref 369, .ref 369], #[]⟩
noncomputable def y371v4 : Obj := ⟨.type "builtin_function_or_method", none, .fields #[.builtin "object.__init_subclass__", .ref 369], #[]⟩
noncomputable def hdT4 (P : Params) : BT := (.node (y0v0 P) (.node (y1v0 P) (.node (y3v4 P) (.node y7v0 (.node y15v0 (.node y31v0 (.node o63 (.node y127v4 (.node y255v4 .nil .nil) .nil) (.node y191v4 (.node y319v4 .nil .nil) .nil)) (.node y95v2 (.node y159v4 (.node y287v4 .nil .nil) .nil) (.node y223v4 (.node y351v4 .nil .nil) .nil))) (.node y47v2 (.node y79v2 (.node y143v4 (.node y271v4 .nil .nil) .nil) (.node y207v4 (.node y335v4 .nil .nil) .nil)) (.node (o111 P) (.node y175v4 (.node y303v4 .nil .nil) .nil) (.node y239v4 (.node y367v4 .nil .nil) .nil)))) (.node y23v0 (.node y39v2 (.node y71v2 (.node y135v3 (.node y263v4 .nil .nil) .nil) (.node y199v4 (.node y327v4 .nil .nil) .nil)) (.node y103v3 (.node y167v4 (.node y295v4 .nil .nil) .nil) (.node y231v4 (.node y359v4 .nil .nil) .nil))) (.node o55 (.node y87v2 (.node y151v4 (.node y279v4 .nil .nil) .nil) (.node y215v4 (.node y343v4 .nil .nil) .nil)) (.node y119v3 (.node y183v4 (.node y311v4 .nil .nil) .nil) (.node y247v4 .nil .nil))))) (.node (y11v0 P) (.node y19v0 (.node y35v4 (.node o67 (.node y131v3 (.node y259v4 .nil .nil) .nil) (.node y195v4 (.node y323v4 .nil .nil) .nil)) (.node y99v3 (.node y163v4 (.node y291v4 .nil .nil) .nil) (.node y227v4 (.node y355v4 .nil .nil) .nil))) (.node y51v2 (.node y83v2 (.node y147v4 (.node y275v4 .nil .nil) .nil) (.node y211v4 (.node y339v4 .nil .nil) .nil)) (.node y115v3 (.node y179v4 (.node y307v4 .nil .nil) .nil) (.node y243v4 (.node y371v4 .nil .nil) .nil)))) (.node y27v0 (.node y43v2 (.node y75v2 (.node y139v3 (.node y267v4 .nil .nil) .nil) (.node y203v4 (.node y331v4 .nil .nil) .nil)) (.node y107v3 (.node y171v4 (.node y299v4 .nil .nil) .nil) (.node y235v4 (.node y363v4 .nil .nil) .nil))) (.node y59v2 (.node (y91v2 P) (.node y155v4 (.node y283v4 .nil .nil) .nil) (.node y219v4 (.node y347v4 .nil .nil) .nil)) (.node y123v3 (.node y187v4 (.node y315v4 .nil .nil) .nil) (.node y251v4 .nil .nil)))))) (.node y5v0 (.node y9v0 (.node y17v0 (.node y33v0 (.node (y65v2 P) (.node y129v3 (.node y257v4 .nil .nil) .nil) (.node y193v4 (.node y321v4 .nil .nil) .nil)) (.node y97v3 (.node y161v4 (.node y289v4 .nil .nil) .nil) (.node y225v4 (.node y353v4 .nil .nil) .nil))) (.node o49 (.node o81 (.node y145v4 (.node y273v4 .nil .nil) .nil) (.node y209v4 (.node y337v4 .nil .nil) .nil)) (.node o113 (.node y177v4 (.node y305v4 .nil .nil) .nil) (.node y241v4 (.node o369 .nil .nil) .nil)))) (.node y25v0 (.node y41v2 (.node y73v2 (.node y137v3 (.node y265v4 .nil .nil) .nil) (.node y201v4 (.node y329v4 .nil .nil) .nil)) (.node y105v3 (.node y169v4 (.node y297v4 .nil .nil) .nil) (.node y233v4 (.node y361v4 .nil .nil) .nil))) (.node y57v2 (.node y89v2 (.node y153v4 (.node y281v4 .nil .nil) .nil) (.node y217v4 (.node y345v4 .nil .nil) .nil)) (.node y121v3 (.node y185v4 (.node y313v4 .nil .nil) .nil) (.node y249v4 .nil .nil))))) (.node (y13v0 P) (.node (y21v0 P) (.node y37v1 (.node y69v2 (.node y133v3 (.node y261v4 .nil .nil) .nil) (.node y197v4 (.node y325v4 .nil .nil) .nil)) (.node y101v3 (.node y165v4 (.node y293v4 .nil .nil) .nil) (.node y229v4 (.node y357v4 .nil .nil) .nil))) (.node y53v2 (.node (y85v2 P) (.node y149v4 (.node y277v4 .nil .nil) .nil) (.node y213v4 (.node y341v4 .nil .nil) .nil)) (.node y117v3 (.node y181v4 (.node y309v4 .nil .nil) .nil) (.node y245v4 .nil .nil)))) (.node (y29v0 P) (.node y45v2 (.node y77v2 (.node y141v3 (.node y269v4 .nil .nil) .nil) (.node y205v4 (.node y333v4 .nil .nil) .nil)) (.node o109 (.node y173v4 (.node y301v4 .nil .nil) .nil) (.node y237v4 (.node y365v4 .nil .nil) .nil))) (.node y61v2 (.node y93v2 (.node y157v4 (.node y285v4 .nil .nil) .nil) (.node y221v4 (.node y349v4 .nil .nil) .nil)) (.node y125v3 (.node y189v4 (.node y317v4 .nil .nil) .nil) (.node y253v4 .nil .nil))))))) (.node (y2v2 P) (.node y4v0 (.node y8v0 (.node y16v0 (.node (y32v0 P) (.node y64v2 (.node y128v3 (.node y256v4 .nil .nil) .nil) (.node y192v4 (.node y320v4 .nil .nil) .nil)) (.node y96v3 (.node y160v4 (.node y288v4 .nil .nil) .nil) (.node y224v4 (.node y352v4 .nil .nil) .nil))) (.node o48 (.node y80v2 (.node (y144v4 P) (.node y272v4 .nil .nil) .nil) (.node y208v4 (.node y336v4 .nil .nil) .nil)) (.node o112 (.node y176v4 (.node y304v4 .nil .nil) .nil) (.node y240v4 (.node (y368v4 P) .nil .nil) .nil)))) (.node y24v0 (.node y40v2 (.node y72v2 (.node y136v3 (.node y264v4 .nil .nil) .nil) (.node y200v4 (.node y328v4 .nil .nil) .nil)) (.node y104v3 (.node y168v4 (.node y296v4 .nil .nil) .nil) (.node y232v4 (.node y360v4 .nil .nil) .nil))) (.node o56 (.node y88v2 (.node y152v4 (.node y280v4 .nil .nil) .nil) (.node y216v4 (.node y344v4 .nil .nil) .nil)) (.node (y120v3 P) (.node y184v4 (.node y312v4 .nil .nil) .nil) (.node y248v4 .nil .nil))))) (.node y12v0 (.node (y20v0 P) (.node y36v1 (.node o68 (.node (y132v3 P) (.node y260v4 .nil .nil) .nil) (.node y196v4 (.node y324v4 .nil .nil) .nil)) (.node y100v3 (.node y164v4 (.node y292v4 .nil .nil) .nil) (.node y228v4 (.node y356v4 .nil .nil) .nil))) (.node y52v2 (.node y84v2 (.node y148v4 (.node y276v4 .nil .nil) .nil) (.node y212v4 (.node y340v4 .nil .nil) .nil)) (.node y116v3 (.node y180v4 (.node y308v4 .nil .nil) .nil) (.node y244v4 .nil .nil)))) (.node y28v0 (.node y44v2 (.node y76v2 (.node y140v3 (.node y268v4 .nil .nil) .nil) (.node y204v4 (.node y332v4 .nil .nil) .nil)) (.node o108 (.node y172v4 (.node y300v4 .nil .nil) .nil) (.node y236v4 (.node y364v4 .nil .nil) .nil))) (.node y60v2 (.node y92v2 (.node y156v4 (.node y284v4 .nil .nil) .nil) (.node y220v4 (.node y348v4 .nil .nil) .nil)) (.node y124v3 (.node y188v4 (.node y316v4 .nil .nil) .nil) (.node y252v4 .nil .nil)))))) (.node (y6v0 P) (.node y10v0 (.node y18v0 (.node y34v1 (.node y66v2 (.node y130v3 (.node y258v4 .nil .nil) .nil) (.node y194v4 (.node y322v4 .nil .nil) .nil)) (.node (y98v3 P) (.node y162v4 (.node y290v4 .nil .nil) .nil) (.node y226v4 (.node y354v4 .nil .nil) .nil))) (.node y50v2 (.node o82 (.node y146v4 (.node y274v4 .nil .nil) .nil) (.node y210v4 (.node y338v4 .nil .nil) .nil)) (.node y114v3 (.node y178v4 (.node y306v4 .nil .nil) .nil) (.node y242v4 (.node y370v4 .nil .nil) .nil)))) (.node y26v0 (.node y42v2 (.node y74v2 (.node (o138 P) (.node y266v4 .nil .nil) .nil) (.node y202v4 (.node y330v4 .nil .nil) .nil)) (.node y106v3 (.node y170v4 (.node y298v4 .nil .nil) .nil) (.node y234v4 (.node y362v4 .nil .nil) .nil))) (.node y58v2 (.node y90v2 (.node y154v4 (.node y282v4 .nil .nil) .nil) (.node y218v4 (.node y346v4 .nil .nil) .nil)) (.node y122v3 (.node y186v4 (.node y314v4 .nil .nil) .nil) (.node y250v4 .nil .nil))))) (.node y14v0 (.node y22v0 (.node y38v2 (.node y70v2 (.node y134v3 (.node y262v4 .nil .nil) .nil) (.node y198v4 (.node y326v4 .nil .nil) .nil)) (.node y102v3 (.node y166v4 (.node y294v4 .nil .nil) .nil) (.node y230v4 (.node y358v4 .nil .nil) .nil))) (.node y54v2 (.node y86v2 (.node y150v4 (.node y278v4 .nil .nil) .nil) (.node y214v4 (.node y342v4 .nil .nil) .nil)) (.node y118v3 (.node y182v4 (.node y310v4 .nil .nil) .nil) (.node y246v4 .nil .nil)))) (.node y30v0 (.node (y46v2 P) (.node y78v2 (.node y142v4 (.node y270v4 .nil .nil) .nil) (.node y206v4 (.node y334v4 .nil .nil) .nil)) (.node y110v3 (.node y174v4 (.node y302v4 .nil .nil) .nil) (.node y238v4 (.node y366v4 .nil .nil) .nil))) (.node o62 (.node y94v2 (.node y158v4 (.node y286v4 .nil .nil) .nil) (.node y222v4 (.node y350v4 .nil .nil) .nil)) (.node (y126v3 P) (.node y190v4 (.node y318v4 .nil .nil) .nil) (.node y254v4 .nil .nil))))))))
noncomputable def y3v5 (P : Params) : Obj := ⟨.type "dict", none, .dict #[en P (Str.ofString "__name__") 165 (.str (Str.ofString "io") 419), en P (Str.ofString "__doc__") 166 (.none), en P (Str.ofString "__package__") 167 (.none), en P (Str.ofString "__loader__") 168 (.builtin "__main__.__loader__#opaque"), en P (Str.ofString "__spec__") 169 (.none), en P (Str.ofString "__annotations__") 170 (.ref 6), en P (Str.ofString "__builtins__") 171 (.ref 4), en P (Str.ofString "__file__") 173 (.str (Str.ofString "/claim/cut.py") 172), en P (Str.ofString "__cached__") 174 (.none), en P (Str.ofString "_sre") 275 (.ref 12), en P (Str.ofString "deque") 317 (.type "collections.deque"), en P (Str.ofString "_wall") 330 (.ref 44), en P (Str.ofString "IPV4_RE") 362 (.ref 49), en P (Str.ofString "liberal_is_HDN") 369 (.ref 56), en P (Str.ofString "user_domain_match") 378 (.ref 63), en P (Str.ofString "_twin_re_1") 418 (.ref 68), en P (Str.ofString "_whence") 428 (.ref 75), en P (Str.ofString "_index") 436 (.ref 82), en P (Str.ofString "UnsupportedOperation") 458 (.ref 92), en P (Str.ofString "IOBase") 490 (.ref 112), en P (Str.ofString "BufferedIOBase") 508 (.ref 127), en P (Str.ofString "TextIOBase") 526 (.ref 139), en P (Str.ofString "BytesIO") 788 (.ref 369), en P (Str.ofString "StringIO") 1075 (.ref 616)] 24, #[]⟩
noncomputable def y35v5 : Obj := ⟨.none, none, .fields #[.int (3) 0, .int (0) 0, .ref 43, .int (8) 0, .int (0) 0, .ref 55, .int (12) 0, .int (0) 0, .ref 62, .int (27) 0, .int (0) 0, .ref 74, .int (32) 0, .int (0) 0, .ref 81, .int (39) 0, .int (0) 0, .ref 88, .int (41) 0, .int (0) 0, .ref 101, .int (48) 0, .int (0) 0, .ref 123, .int (50) 0, .int (0) 0, .ref 135, .int (52) 0, .int (0) 0, .ref 147, .int (222) 0, .int (0) 0, .ref 377], #[]⟩
noncomputable def y372v5 : Obj := ⟨.type "tuple", none, .seq #[.ref 139] 0, #[]⟩
noncomputable def y373v5 : Obj := ⟨.type "builtin_function_or_method", none, .fields #[.builtin "type.__prepare__", .type "type"], #[]⟩
noncomputable def y374v5 (P : Params) : Obj := ⟨.type "dict", none, .dict #[en P (Str.ofString "__module__") 796 (.str (Str.ofString "_io") 801), en P (Str.ofString "__qualname__") 798 (.str (Str.ofString "StringIO") 797), en P (Str.ofString "__firstlineno__") 800 (.int (222) 799), en P (Str.ofString "__init__") 813 (.ref 386), en P (Str.ofString "_StringIO__translated") 822 (.ref 393), en P (Str.ofString "_StringIO__check") 829 (.ref 400), en P (Str.ofString "_StringIO__check_dot") 836 (.ref 407), en P (Str.ofString "_StringIO__line") 851 (.ref 414), en P (Str.ofString "closed") 859 (.ref 422), en P (Str.ofString "line_buffering") 867 (.ref 430), en P (Str.ofString "newlines") 875 (.ref 438), en P (Str.ofString "encoding") 883 (.ref 446), en P (Str.ofString "errors") 891 (.ref 454), en P (Str.ofString "close") 898 (.ref 461), en P (Str.ofString "__enter__") 905 (.ref 468), en P (Str.ofString "__exit__") 913 (.ref 475), en P (Str.ofString "readable") 920 (.ref 482), en P (Str.ofString "writable") 927 (.ref 489), en P (Str.ofString "seekable") 934 (.ref 496), en P (Str.ofString "isatty") 941 (.ref 503), en P (Str.ofString "flush") 948 (.ref 510), en P (Str.ofString "fileno") 955 (.ref 517), en P (Str.ofString "detach") 962 (.ref 524), en P (Str.ofString "getvalue") 969 (.ref 531), en P (Str.ofString "tell") 976 (.ref 538), en P (Str.ofString "seek") 986 (.ref 546), en P (Str.ofString "truncate") 994 (.ref 554), en P (Str.ofString "read") 1006 (.ref 562), en P (Str.ofString "readline") 1016 (.ref 570), en P (Str.ofString "readlines") 1026 (.ref 578), en P (Str.ofString "__iter__") 1033 (.ref 585), en P (Str.ofString "__next__") 1041 (.ref 592), en P (Str.ofString "write") 1053 (.ref 599), en P (Str.ofString "writelines") 1061 (.ref 606), en P (Str.ofString "__repr__") 1068 (.ref 613), en P (Str.ofString "__static_attributes__") 1072 (.ref 614)] 36, #[]⟩
noncomputable def y375v5 : Obj := ⟨.type "tuple", none, .seq #[] 0, #[]⟩
noncomputable def y376v5 : Obj := ⟨.none, none, .fields #[.int (225) 0, .int (4) 0, .ref 385, .int (238) 0, .int (4) 0, .ref 392, .int (246) 0, .int (4) 0, .ref 399, .int (250) 0, .int (4) 0, .ref 406, .int (254) 0, .int (4) 0, .ref 413, .int (287) 0, .int (4) 0, .ref 420, .int (291) 0, .int (4) 0, .ref 428, .int (295) 0, .int (4) 0, .ref 436, .int (299) 0, .int (4) 0, .ref 444, .int (303) 0, .int (4) 0, .ref 452, .int (306) 0, .int (4) 0, .ref 460, .int (309) 0, .int (4) 0, .ref 467, .int (313) 0, .int (4) 0, .ref 474, .int (316) 0, .int (4) 0, .ref 481, .int (320) 0, .int (4) 0, .ref 488, .int (324) 0, .int (4) 0, .ref 495, .int (328) 0, .int (4) 0, .ref 502, .int (332) 0, .int (4) 0, .ref 509, .int (335) 0, .int (4) 0, .ref 516, .int (338) 0, .int (4) 0, .ref 523, .int (341) 0, .int (4) 0, .ref 530, .int (344) 0, .int (4) 0, .ref 537, .int (348) 0, .int (4) 0, .ref 545, .int (365) 0, .int (4) 0, .ref 553, .int (368) 0, .int (4) 0, .ref 561, .int (382) 0, .int (4) 0, .ref 569, .int (389) 0, .int (4) 0, .ref 577, .int (392) 0, .int (4) 0, .ref 584, .int (396) 0, .int (4) 0, .ref 591, .int (403) 0, .int (4) 0, .ref 598, .int (422) 0, .int (4) 0, .ref 605, .int (425) 0, .int (4) 0, .ref 612], #[]⟩
noncomputable def y377v5 : Obj := ⟨.type "code", none, .fields #[.str (Str.ofString "StringIO") 791, .str (Str.ofString "StringIO") 792, .str (Str.ofString "/claim/cut.py") 793, .int (222) 0, .int (0) 0, .int (0) 0, .int (0) 0, .int (0) 0, .ref 375, .bool false, .int (318) 0, .ref 376, .none, .none, .none, .none, .int (794) 0, .int (222) 0, .str (Str.ofString "/claim/cut.py") 795], #[]⟩
noncomputable def y378v5 : Obj := ⟨.type "frame", none, .plain, #[some (.ref 377), some (.ref 3), some (.ref 374), none, some (.str (Str.ofString "io") 419), none, some (.ref 0)]⟩
noncomputable def y380v5 : Obj := ⟨.type "tuple", none, .seq #[] 0, #[]⟩
noncomputable def y381v5 : Obj := ⟨.none, none, .fields #[], #[]⟩
noncomputable def y382v5 : Obj := ⟨.type "tuple", none, .seq #[.str (Str.ofString "self") 808, .str (Str.ofString "initial_value") 809, .str (Str.ofString "newline") 810] 0, #[]⟩
noncomputable def y383v5 : Obj := ⟨.type "tuple", none, .seq #[] 0, #[]⟩
noncomputable def y384v5 : Obj := fnR (mAt 16 1) (Str.ofString "StringIO.__init__")
noncomputable def y387v5 : Obj := ⟨.type "tuple", none, .seq #[] 0, #[]⟩
noncomputable def y388v5 : Obj := ⟨.none, none, .fields #[], #[]⟩
noncomputable def y389v5 : Obj := ⟨.type "tuple", none, .seq #[.str (Str.ofString "self") 817, .str (Str.ofString "s") 818, .str (Str.ofString "newline") 819] 0, #[]⟩
noncomputable def y390v5 : Obj := ⟨.type "tuple", none, .seq #[] 0, #[]⟩
noncomputable def y391v5 : Obj := fnR (mAt 16 2) (Str.ofString "StringIO.__translated")
noncomputable def y394v5 : Obj := ⟨.type "tuple", none, .seq #[] 0, #[]⟩
noncomputable def y395v5 : Obj := ⟨.none, none, .fields #[], #[]⟩
noncomputable def y396v5 : Obj := ⟨.type "tuple", none, .seq #[.str (Str.ofString "self") 826] 0, #[]⟩
noncomputable def y397v5 : Obj := ⟨.type "tuple", none, .seq #[] 0, #[]⟩
noncomputable def y398v5 : Obj := fnR (mAt 16 3) (Str.ofString "StringIO.__check")
noncomputable def y401v5 : Obj := ⟨.type "tuple", none, .seq #[] 0, #[]⟩
noncomputable def y402v5 : Obj := ⟨.none, none, .fields #[], #[]⟩
noncomputable def y403v5 : Obj := ⟨.type "tuple", none, .seq #[.str (Str.ofString "self") 833] 0, #[]⟩
noncomputable def y404v5 : Obj := ⟨.type "tuple", none, .seq #[] 0, #[]⟩
noncomputable def y405v5 : Obj := fnR (mAt 16 4) (Str.ofString "StringIO.__check_dot")
noncomputable def y406v5 : Obj := ⟨.type "code", none, .fields #[.str (Str.ofString "__check_dot") 830, .str (Str.ofString "StringIO.__check_dot") 831, .str (Str.ofString "/claim/cut.py") 832, .int (250) 0, .int (1) 0, .int (0) 0, .int (0) 0, .int (3) 0, .ref 401, .bool true, .int (318) 0, .ref 402, .none, .ref 403, .ref 404, .ref 405, .int (834) 0, .int (250) 0, .str (Str.ofString "/claim/cut.py") 835], #[]⟩
noncomputable def y407v5 : Obj := fnO (mAt 16 4) (Str.ofString "StringIO.__check_dot") (.none) (.none) (.none) (.str (Str.ofString "io") 419) (.ref 406) (.none)
noncomputable def y408v5 : Obj := ⟨.type "tuple", none, .seq #[] 0, #[]⟩
noncomputable def y409v5 : Obj := ⟨.none, none, .fields #[], #[]⟩
noncomputable def y410v5 : Obj := ⟨.type "tuple", none, .seq #[.str (Str.ofString "self") 840, .str (Str.ofString "limit") 841, .str (Str.ofString "start") 842, .str (Str.ofString "stop") 843, .str (Str.ofString "cut") 844, .str (Str.ofString "newline") 845, .str (Str.ofString "i") 846, .str (Str.ofString "j") 847, .str (Str.ofString "end") 848] 0, #[]⟩
noncomputable def y411v5 : Obj := ⟨.type "tuple", none, .seq #[] 0, #[]⟩
noncomputable def y412v5 : Obj := fnR (mAt 16 5) (Str.ofString "StringIO.__line")
noncomputable def y413v5 : Obj := ⟨.type "code", none, .fields #[.str (Str.ofString "__line") 837, .str (Str.ofString "StringIO.__line") 838, .str (Str.ofString "/claim/cut.py") 839, .int (254) 0, .int (2) 0, .int (0) 0, .int (0) 0, .int (3) 0, .ref 408, .bool true, .int (318) 0, .ref 409, .none, .ref 410, .ref 411, .ref 412, .int (849) 0, .int (254) 0, .str (Str.ofString "/claim/cut.py") 850], #[]⟩
noncomputable def y414v5 : Obj := fnO (mAt 16 5) (Str.ofString "StringIO.__line") (.none) (.none) (.none) (.str (Str.ofString "io") 419) (.ref 413) (.none)
noncomputable def y415v5 : Obj := ⟨.type "tuple", none, .seq #[] 0, #[]⟩
noncomputable def y416v5 : Obj := ⟨.none, none, .fields #[], #[]⟩
noncomputable def y417v5 : Obj := ⟨.type "tuple", none, .seq #[.str (Str.ofString "self") 855] 0, #[]⟩
noncomputable def y418v5 : Obj := ⟨.type "tuple", none, .seq #[] 0, #[]⟩
noncomputable def y419v5 : Obj := fnR (mAt 16 6) (Str.ofString "StringIO.closed")
noncomputable def y420v5 : Obj := ⟨.type "code", none, .fields #[.str (Str.ofString "closed") 852, .str (Str.ofString "StringIO.closed") 853, .str (Str.ofString "/claim/cut.py") 854, .int (286) 0, .int (1) 0, .int (0) 0, .int (0) 0, .int (3) 0, .ref 415, .bool true, .int (318) 0, .ref 416, .none, .ref 417, .ref 418, .ref 419, .int (856) 0, .int (286) 0, .str (Str.ofString "/claim/cut.py") 857], #[]⟩
noncomputable def y421v5 : Obj := fnO (mAt 16 6) (Str.ofString "StringIO.closed") (.none) (.none) (.none) (.str (Str.ofString "io") 419) (.ref 420) (.none)
noncomputable def y422v5 : Obj := ⟨.type "property", none, .fields #[.ref 421, .none, .none, .none, .str (Str.ofString "closed") 859, .bool false], #[]⟩
noncomputable def y423v5 : Obj := ⟨.type "tuple", none, .seq #[] 0, #[]⟩
noncomputable def y424v5 : Obj := ⟨.none, none, .fields #[], #[]⟩
noncomputable def y425v5 : Obj := ⟨.type "tuple", none, .seq #[.str (Str.ofString "self") 863] 0, #[]⟩
noncomputable def y426v5 : Obj := ⟨.type "tuple", none, .seq #[] 0, #[]⟩
noncomputable def y427v5 : Obj := fnR (mAt 16 7) (Str.ofString "StringIO.line_buffering")
noncomputable def y428v5 : Obj := ⟨.type "code", none, .fields #[.str (Str.ofString "line_buffering") 860, .str (Str.ofString "StringIO.line_buffering") 861, .str (Str.ofString "/claim/cut.py") 862, .int (290) 0, .int (1) 0, .int (0) 0, .int (0) 0, .int (3) 0, .ref 423, .bool true, .int (318) 0, .ref 424, .none, .ref 425, .ref 426, .ref 427, .int (864) 0, .int (290) 0, .str (Str.ofString "/claim/cut.py") 865], #[]⟩
noncomputable def y429v5 : Obj := fnO (mAt 16 7) (Str.ofString "StringIO.line_buffering") (.none) (.none) (.none) (.str (Str.ofString "io") 419) (.ref 428) (.none)
noncomputable def y430v5 : Obj := ⟨.type "property", none, .fields #[.ref 429, .none, .none, .none, .str (Str.ofString "line_buffering") 867, .bool false], #[]⟩
noncomputable def y431v5 : Obj := ⟨.type "tuple", none, .seq #[] 0, #[]⟩
noncomputable def y432v5 : Obj := ⟨.none, none, .fields #[], #[]⟩
noncomputable def y433v5 : Obj := ⟨.type "tuple", none, .seq #[.str (Str.ofString "self") 871] 0, #[]⟩
noncomputable def y434v5 : Obj := ⟨.type "tuple", none, .seq #[] 0, #[]⟩
noncomputable def y435v5 : Obj := fnR (mAt 16 8) (Str.ofString "StringIO.newlines")
noncomputable def y436v5 : Obj := ⟨.type "code", none, .fields #[.str (Str.ofString "newlines") 868, .str (Str.ofString "StringIO.newlines") 869, .str (Str.ofString "/claim/cut.py") 870, .int (294) 0, .int (1) 0, .int (0) 0, .int (0) 0, .int (3) 0, .ref 431, .bool true, .int (318) 0, .ref 432, .none, .ref 433, .ref 434, .ref 435, .int (872) 0, .int (294) 0, .str (Str.ofString "/claim/cut.py") 873], #[]⟩
noncomputable def y437v5 : Obj := fnO (mAt 16 8) (Str.ofString "StringIO.newlines") (.none) (.none) (.none) (.str (Str.ofString "io") 419) (.ref 436) (.none)
noncomputable def y438v5 : Obj := ⟨.type "property", none, .fields #[.ref 437, .none, .none, .none, .str (Str.ofString "newlines") 875, .bool false], #[]⟩
noncomputable def y439v5 : Obj := ⟨.type "tuple", none, .seq #[] 0, #[]⟩
noncomputable def y440v5 : Obj := ⟨.none, none, .fields #[], #[]⟩
noncomputable def y441v5 : Obj := ⟨.type "tuple", none, .seq #[.str (Str.ofString "self") 879] 0, #[]⟩
noncomputable def y442v5 : Obj := ⟨.type "tuple", none, .seq #[] 0, #[]⟩
noncomputable def y443v5 : Obj := fnR (mAt 16 9) (Str.ofString "StringIO.encoding")
noncomputable def y444v5 : Obj := ⟨.type "code", none, .fields #[.str (Str.ofString "encoding") 876, .str (Str.ofString "StringIO.encoding") 877, .str (Str.ofString "/claim/cut.py") 878, .int (298) 0, .int (1) 0, .int (0) 0, .int (0) 0, .int (3) 0, .ref 439, .bool true, .int (318) 0, .ref 440, .none, .ref 441, .ref 442, .ref 443, .int (880) 0, .int (298) 0, .str (Str.ofString "/claim/cut.py") 881], #[]⟩
noncomputable def y445v5 : Obj := fnO (mAt 16 9) (Str.ofString "StringIO.encoding") (.none) (.none) (.none) (.str (Str.ofString "io") 419) (.ref 444) (.none)
noncomputable def y446v5 : Obj := ⟨.type "property", none, .fields #[.ref 445, .none, .none, .none, .str (Str.ofString "encoding") 883, .bool false], #[]⟩
noncomputable def y447v5 : Obj := ⟨.type "tuple", none, .seq #[] 0, #[]⟩
noncomputable def y448v5 : Obj := ⟨.none, none, .fields #[], #[]⟩
noncomputable def y449v5 : Obj := ⟨.type "tuple", none, .seq #[.str (Str.ofString "self") 887] 0, #[]⟩
noncomputable def y450v5 : Obj := ⟨.type "tuple", none, .seq #[] 0, #[]⟩
noncomputable def y451v5 : Obj := fnR (mAt 16 10) (Str.ofString "StringIO.errors")
noncomputable def y452v5 : Obj := ⟨.type "code", none, .fields #[.str (Str.ofString "errors") 884, .str (Str.ofString "StringIO.errors") 885, .str (Str.ofString "/claim/cut.py") 886, .int (302) 0, .int (1) 0, .int (0) 0, .int (0) 0, .int (3) 0, .ref 447, .bool true, .int (318) 0, .ref 448, .none, .ref 449, .ref 450, .ref 451, .int (888) 0, .int (302) 0, .str (Str.ofString "/claim/cut.py") 889], #[]⟩
noncomputable def y453v5 : Obj := fnO (mAt 16 10) (Str.ofString "StringIO.errors") (.none) (.none) (.none) (.str (Str.ofString "io") 419) (.ref 452) (.none)
noncomputable def y454v5 : Obj := ⟨.type "property", none, .fields #[.ref 453, .none, .none, .none, .str (Str.ofString "errors") 891, .bool false], #[]⟩
noncomputable def y455v5 : Obj := ⟨.type "tuple", none, .seq #[] 0, #[]⟩
noncomputable def y456v5 : Obj := ⟨.none, none, .fields #[], #[]⟩
noncomputable def y457v5 : Obj := ⟨.type "tuple", none, .seq #[.str (Str.ofString "self") 895] 0, #[]⟩
noncomputable def y458v5 : Obj := ⟨.type "tuple", none, .seq #[] 0, #[]⟩
noncomputable def y459v5 : Obj := fnR (mAt 16 11) (Str.ofString "StringIO.close")
noncomputable def y460v5 : Obj := ⟨.type "code", none, .fields #[.str (Str.ofString "close") 892, .str (Str.ofString "StringIO.close") 893, .str (Str.ofString "/claim/cut.py") 894, .int (306) 0, .int (1) 0, .int (0) 0, .int (0) 0, .int (3) 0, .ref 455, .bool true, .int (318) 0, .ref 456, .none, .ref 457, .ref 458, .ref 459, .int (896) 0, .int (306) 0, .str (Str.ofString "/claim/cut.py") 897], #[]⟩
noncomputable def y461v5 : Obj := fnO (mAt 16 11) (Str.ofString "StringIO.close") (.none) (.none) (.none) (.str (Str.ofString "io") 419) (.ref 460) (.none)
noncomputable def y462v5 : Obj := ⟨.type "tuple", none, .seq #[] 0, #[]⟩
noncomputable def y463v5 : Obj := ⟨.none, none, .fields #[], #[]⟩
noncomputable def y464v5 : Obj := ⟨.type "tuple", none, .seq #[.str (Str.ofString "self") 902] 0, #[]⟩
noncomputable def y465v5 : Obj := ⟨.type "tuple", none, .seq #[] 0, #[]⟩
noncomputable def y466v5 : Obj := fnR (mAt 16 12) (Str.ofString "StringIO.__enter__")
noncomputable def y467v5 : Obj := ⟨.type "code", none, .fields #[.str (Str.ofString "__enter__") 899, .str (Str.ofString "StringIO.__enter__") 900, .str (Str.ofString "/claim/cut.py") 901, .int (309) 0, .int (1) 0, .int (0) 0, .int (0) 0, .int (3) 0, .ref 462, .bool true, .int (318) 0, .ref 463, .none, .ref 464, .ref 465, .ref 466, .int (903) 0, .int (309) 0, .str (Str.ofString "/claim/cut.py") 904], #[]⟩
noncomputable def y468v5 : Obj := fnO (mAt 16 12) (Str.ofString "StringIO.__enter__") (.none) (.none) (.none) (.str (Str.ofString "io") 419) (.ref 467) (.none)
noncomputable def y469v5 : Obj := ⟨.type "tuple", none, .seq #[] 0, #[]⟩
noncomputable def y470v5 : Obj := ⟨.none, none, .fields #[], #[]⟩
noncomputable def y471v5 : Obj := ⟨.type "tuple", none, .seq #[.str (Str.ofString "self") 909, .str (Str.ofString "args") 910] 0, #[]⟩
noncomputable def y472v5 : Obj := ⟨.type "tuple", none, .seq #[] 0, #[]⟩
noncomputable def y473v5 : Obj := fnR (mAt 16 13) (Str.ofString "StringIO.__exit__")
noncomputable def y474v5 : Obj := ⟨.type "code", none, .fields #[.str (Str.ofString "__exit__") 906, .str (Str.ofString "StringIO.__exit__") 907, .str (Str.ofString "/claim/cut.py") 908, .int (313) 0, .int (1) 0, .int (0) 0, .int (0) 0, .int (7) 0, .ref 469, .bool true, .int (318) 0, .ref 470, .none, .ref 471, .ref 472, .ref 473, .int (911) 0, .int (313) 0, .str (Str.ofString "/claim/cut.py") 912], #[]⟩
noncomputable def y475v5 : Obj := fnO (mAt 16 13) (Str.ofString "StringIO.__exit__") (.none) (.none) (.none) (.str (Str.ofString "io") 419) (.ref 474) (.none)
noncomputable def y476v5 : Obj := ⟨.type "tuple", none, .seq #[] 0, #[]⟩
noncomputable def y477v5 : Obj := ⟨.none, none, .fields #[], #[]⟩
noncomputable def y478v5 : Obj := ⟨.type "tuple", none, .seq #[.str (Str.ofString "self") 917] 0, #[]⟩
noncomputable def y479v5 : Obj := ⟨.type "tuple", none, .seq #[] 0, #[]⟩
noncomputable def y480v5 : Obj := fnR (mAt 16 14) (Str.ofString "StringIO.readable")
noncomputable def y481v5 : Obj := ⟨.type "code", none, .fields #[.str (Str.ofString "readable") 914, .str (Str.ofString "StringIO.readable") 915, .str (Str.ofString "/claim/cut.py") 916, .int (316) 0, .int (1) 0, .int (0) 0, .int (0) 0, .int (3) 0, .ref 476, .bool true, .int (318) 0, .ref 477, .none, .ref 478, .ref 479, .ref 480, .int (918) 0, .int (316) 0, .str (Str.ofString "/claim/cut.py") 919], #[]⟩
noncomputable def y482v5 : Obj := fnO (mAt 16 14) (Str.ofString "StringIO.readable") (.none) (.none) (.none) (.str (Str.ofString "io") 419) (.ref 481) (.none)
noncomputable def y483v5 : Obj := ⟨.type "tuple", none, .seq #[] 0, #[]⟩
noncomputable def y484v5 : Obj := ⟨.none, none, .fields #[], #[]⟩
noncomputable def y485v5 : Obj := ⟨.type "tuple", none, .seq #[.str (Str.ofString "self") 924] 0, #[]⟩
noncomputable def y486v5 : Obj := ⟨.type "tuple", none, .seq #[] 0, #[]⟩
noncomputable def y487v5 : Obj := fnR (mAt 16 15) (Str.ofString "StringIO.writable")
noncomputable def y488v5 : Obj := ⟨.type "code", none, .fields #[.str (Str.ofString "writable") 921, .str (Str.ofString "StringIO.writable") 922, .str (Str.ofString "/claim/cut.py") 923, .int (320) 0, .int (1) 0, .int (0) 0, .int (0) 0, .int (3) 0, .ref 483, .bool true, .int (318) 0, .ref 484, .none, .ref 485, .ref 486, .ref 487, .int (925) 0, .int (320) 0, .str (Str.ofString "/claim/cut.py") 926], #[]⟩
noncomputable def y489v5 : Obj := fnO (mAt 16 15) (Str.ofString "StringIO.writable") (.none) (.none) (.none) (.str (Str.ofString "io") 419) (.ref 488) (.none)
noncomputable def y490v5 : Obj := ⟨.type "tuple", none, .seq #[] 0, #[]⟩
noncomputable def y491v5 : Obj := ⟨.none, none, .fields #[], #[]⟩
noncomputable def y492v5 : Obj := ⟨.type "tuple", none, .seq #[.str (Str.ofString "self") 931] 0, #[]⟩
noncomputable def y493v5 : Obj := ⟨.type "tuple", none, .seq #[] 0, #[]⟩
noncomputable def y494v5 : Obj := fnR (mAt 16 16) (Str.ofString "StringIO.seekable")
noncomputable def y495v5 : Obj := ⟨.type "code", none, .fields #[.str (Str.ofString "seekable") 928, .str (Str.ofString "StringIO.seekable") 929, .str (Str.ofString "/claim/cut.py") 930, .int (324) 0, .int (1) 0, .int (0) 0, .int (0) 0, .int (3) 0, .ref 490, .bool true, .int (318) 0, .ref 491, .none, .ref 492, .ref 493, .ref 494, .int (932) 0, .int (324) 0, .str (Str.ofString "/claim/cut.py") 933], #[]⟩
noncomputable def y496v5 : Obj := fnO (mAt 16 16) (Str.ofString "StringIO.seekable") (.none) (.none) (.none) (.str (Str.ofString "io") 419) (.ref 495) (.none)
noncomputable def y497v5 : Obj := ⟨.type "tuple", none, .seq #[] 0, #[]⟩
noncomputable def y498v5 : Obj := ⟨.none, none, .fields #[], #[]⟩
noncomputable def y499v5 : Obj := ⟨.type "tuple", none, .seq #[.str (Str.ofString "self") 938] 0, #[]⟩
noncomputable def y500v5 : Obj := ⟨.type "tuple", none, .seq #[] 0, #[]⟩
noncomputable def y501v5 : Obj := fnR (mAt 16 17) (Str.ofString "StringIO.isatty")
noncomputable def y502v5 : Obj := ⟨.type "code", none, .fields #[.str (Str.ofString "isatty") 935, .str (Str.ofString "StringIO.isatty") 936, .str (Str.ofString "/claim/cut.py") 937, .int (328) 0, .int (1) 0, .int (0) 0, .int (0) 0, .int (3) 0, .ref 497, .bool true, .int (318) 0, .ref 498, .none, .ref 499, .ref 500, .ref 501, .int (939) 0, .int (328) 0, .str (Str.ofString "/claim/cut.py") 940], #[]⟩
noncomputable def y503v5 : Obj := fnO (mAt 16 17) (Str.ofString "StringIO.isatty") (.none) (.none) (.none) (.str (Str.ofString "io") 419) (.ref 502) (.none)
noncomputable def y504v5 : Obj := ⟨.type "tuple", none, .seq #[] 0, #[]⟩
noncomputable def y505v5 : Obj := ⟨.none, none, .fields #[], #[]⟩
noncomputable def y506v5 : Obj := ⟨.type "tuple", none, .seq #[.str (Str.ofString "self") 945] 0, #[]⟩
noncomputable def y507v5 : Obj := ⟨.type "tuple", none, .seq #[] 0, #[]⟩
noncomputable def y508v5 : Obj := fnR (mAt 16 18) (Str.ofString "StringIO.flush")
noncomputable def y509v5 : Obj := ⟨.type "code", none, .fields #[.str (Str.ofString "flush") 942, .str (Str.ofString "StringIO.flush") 943, .str (Str.ofString "/claim/cut.py") 944, .int (332) 0, .int (1) 0, .int (0) 0, .int (0) 0, .int (3) 0, .ref 504, .bool true, .int (318) 0, .ref 505, .none, .ref 506, .ref 507, .ref 508, .int (946) 0, .int (332) 0, .str (Str.ofString "/claim/cut.py") 947], #[]⟩
noncomputable def y510v5 : Obj := fnO (mAt 16 18) (Str.ofString "StringIO.flush") (.none) (.none) (.none) (.str (Str.ofString "io") 419) (.ref 509) (.none)
noncomputable def y511v5 : Obj := ⟨.type "tuple", none, .seq #[] 0, #[]⟩
noncomputable def y512v5 : Obj := ⟨.none, none, .fields #[], #[]⟩
noncomputable def y513v5 : Obj := ⟨.type "tuple", none, .seq #[.str (Str.ofString "self") 952] 0, #[]⟩
noncomputable def y514v5 : Obj := ⟨.type "tuple", none, .seq #[] 0, #[]⟩
noncomputable def y515v5 : Obj := fnR (mAt 16 19) (Str.ofString "StringIO.fileno")
noncomputable def y516v5 : Obj := ⟨.type "code", none, .fields #[.str (Str.ofString "fileno") 949, .str (Str.ofString "StringIO.fileno") 950, .str (Str.ofString "/claim/cut.py") 951, .int (335) 0, .int (1) 0, .int (0) 0, .int (0) 0, .int (3) 0, .ref 511, .bool true, .int (318) 0, .ref 512, .none, .ref 513, .ref 514, .ref 515, .int (953) 0, .int (335) 0, .str (Str.ofString "/claim/cut.py") 954], #[]⟩
noncomputable def y517v5 : Obj := fnO (mAt 16 19) (Str.ofString "StringIO.fileno") (.none) (.none) (.none) (.str (Str.ofString "io") 419) (.ref 516) (.none)
noncomputable def y518v5 : Obj := ⟨.type "tuple", none, .seq #[] 0, #[]⟩
noncomputable def y519v5 : Obj := ⟨.none, none, .fields #[], #[]⟩
noncomputable def y520v5 : Obj := ⟨.type "tuple", none, .seq #[.str (Str.ofString "self") 959] 0, #[]⟩
noncomputable def y521v5 : Obj := ⟨.type "tuple", none, .seq #[] 0, #[]⟩
noncomputable def y522v5 : Obj := fnR (mAt 16 20) (Str.ofString "StringIO.detach")
noncomputable def y523v5 : Obj := ⟨.type "code", none, .fields #[.str (Str.ofString "detach") 956, .str (Str.ofString "StringIO.detach") 957, .str (Str.ofString "/claim/cut.py") 958, .int (338) 0, .int (1) 0, .int (0) 0, .int (0) 0, .int (3) 0, .ref 518, .bool true, .int (318) 0, .ref 519, .none, .ref 520, .ref 521, .ref 522, .int (960) 0, .int (338) 0, .str (Str.ofString "/claim/cut.py") 961], #[]⟩
noncomputable def y524v5 : Obj := fnO (mAt 16 20) (Str.ofString "StringIO.detach") (.none) (.none) (.none) (.str (Str.ofString "io") 419) (.ref 523) (.none)
noncomputable def y525v5 : Obj := ⟨.type "tuple", none, .seq #[] 0, #[]⟩
noncomputable def y526v5 : Obj := ⟨.none, none, .fields #[], #[]⟩
noncomputable def y527v5 : Obj := ⟨.type "tuple", none, .seq #[.str (Str.ofString "self") 966] 0, #[]⟩
noncomputable def y528v5 : Obj := ⟨.type "tuple", none, .seq #[] 0, #[]⟩
noncomputable def y529v5 : Obj := fnR (mAt 16 21) (Str.ofString "StringIO.getvalue")
noncomputable def y530v5 : Obj := ⟨.type "code", none, .fields #[.str (Str.ofString "getvalue") 963, .str (Str.ofString "StringIO.getvalue") 964, .str (Str.ofString "/claim/cut.py") 965, .int (341) 0, .int (1) 0, .int (0) 0, .int (0) 0, .int (3) 0, .ref 525, .bool true, .int (318) 0, .ref 526, .none, .ref 527, .ref 528, .ref 529, .int (967) 0, .int (341) 0, .str (Str.ofString "/claim/cut.py") 968], #[]⟩
noncomputable def y531v5 : Obj := fnO (mAt 16 21) (Str.ofString "StringIO.getvalue") (.none) (.none) (.none) (.str (Str.ofString "io") 419) (.ref 530) (.none)
noncomputable def y532v5 : Obj := ⟨.type "tuple", none, .seq #[] 0, #[]⟩
noncomputable def y533v5 : Obj := ⟨.none, none, .fields #[], #[]⟩
noncomputable def y534v5 : Obj := ⟨.type "tuple", none, .seq #[.str (Str.ofString "self") 973] 0, #[]⟩
noncomputable def y535v5 : Obj := ⟨.type "tuple", none, .seq #[] 0, #[]⟩
noncomputable def y536v5 : Obj := fnR (mAt 16 22) (Str.ofString "StringIO.tell")
noncomputable def y537v5 : Obj := ⟨.type "code", none, .fields #[.str (Str.ofString "tell") 970, .str (Str.ofString "StringIO.tell") 971, .str (Str.ofString "/claim/cut.py") 972, .int (344) 0, .int (1) 0, .int (0) 0, .int (0) 0, .int (3) 0, .ref 532, .bool true, .int (318) 0, .ref 533, .none, .ref 534, .ref 535, .ref 536, .int (974) 0, .int (344) 0, .str (Str.ofString "/claim/cut.py") 975], #[]⟩
noncomputable def y538v5 : Obj := fnO (mAt 16 22) (Str.ofString "StringIO.tell") (.none) (.none) (.none) (.str (Str.ofString "io") 419) (.ref 537) (.none)
noncomputable def y539v5 : Obj := ⟨.type "tuple", none, .seq #[.int (0) 977] 0, #[]⟩
noncomputable def y540v5 : Obj := ⟨.type "tuple", none, .seq #[] 0, #[]⟩
noncomputable def y541v5 : Obj := ⟨.none, none, .fields #[], #[]⟩
noncomputable def y542v5 : Obj := ⟨.type "tuple", none, .seq #[.str (Str.ofString "self") 981, .str (Str.ofString "pos") 982, .str (Str.ofString "whence") 983] 0, #[]⟩
noncomputable def y543v5 : Obj := ⟨.type "tuple", none, .seq #[] 0, #[]⟩
noncomputable def y544v5 : Obj := fnR (mAt 16 23) (Str.ofString "StringIO.seek")
noncomputable def y545v5 : Obj := ⟨.type "code", none, .fields #[.str (Str.ofString "seek") 978, .str (Str.ofString "StringIO.seek") 979, .str (Str.ofString "/claim/cut.py") 980, .int (348) 0, .int (3) 0, .int (3) 0, .int (0) 0, .int (3) 0, .ref 540, .bool true, .int (318) 0, .ref 541, .none, .ref 542, .ref 543, .ref 544, .int (984) 0, .int (348) 0, .str (Str.ofString "/claim/cut.py") 985], #[]⟩
noncomputable def y546v5 : Obj := fnO (mAt 16 23) (Str.ofString "StringIO.seek") (.ref 539) (.none) (.none) (.str (Str.ofString "io") 419) (.ref 545) (.none)
noncomputable def y547v5 : Obj := ⟨.type "tuple", none, .seq #[.none] 0, #[]⟩
noncomputable def y548v5 : Obj := ⟨.type "tuple", none, .seq #[] 0, #[]⟩
noncomputable def y549v5 : Obj := ⟨.none, none, .fields #[], #[]⟩
noncomputable def y550v5 : Obj := ⟨.type "tuple", none, .seq #[.str (Str.ofString "self") 990, .str (Str.ofString "pos") 991] 0, #[]⟩
noncomputable def y551v5 : Obj := ⟨.type "tuple", none, .seq #[] 0, #[]⟩
noncomputable def y552v5 : Obj := fnR (mAt 16 24) (Str.ofString "StringIO.truncate")
noncomputable def y553v5 : Obj := ⟨.type "code", none, .fields #[.str (Str.ofString "truncate") 987, .str (Str.ofString "StringIO.truncate") 988, .str (Str.ofString "/claim/cut.py") 989, .int (365) 0, .int (2) 0, .int (2) 0, .int (0) 0, .int (3) 0, .ref 548, .bool true, .int (318) 0, .ref 549, .none, .ref 550, .ref 551, .ref 552, .int (992) 0, .int (365) 0, .str (Str.ofString "/claim/cut.py") 993], #[]⟩
noncomputable def y554v5 : Obj := fnO (mAt 16 24) (Str.ofString "StringIO.truncate") (.ref 547) (.none) (.none) (.str (Str.ofString "io") 419) (.ref 553) (.none)
noncomputable def y556v5 : Obj := ⟨.type "tuple", none, .seq #[] 0, #[]⟩
noncomputable def y557v5 : Obj := ⟨.none, none, .fields #[], #[]⟩
noncomputable def y558v5 : Obj := ⟨.type "tuple", none, .seq #[.str (Str.ofString "self") 1000, .str (Str.ofString "size") 1001, .str (Str.ofString "start") 1002, .str (Str.ofString "stop") 1003] 0, #[]⟩
noncomputable def y559v5 : Obj := ⟨.type "tuple", none, .seq #[] 0, #[]⟩
noncomputable def y560v5 : Obj := fnR (mAt 16 25) (Str.ofString "StringIO.read")
noncomputable def y563v5 : Obj := ⟨.type "tuple", none, .seq #[.int (-1) 1008] 0, #[]⟩
noncomputable def y564v5 : Obj := ⟨.type "tuple", none, .seq #[] 0, #[]⟩
noncomputable def y565v5 : Obj := ⟨.none, none, .fields #[], #[]⟩
noncomputable def y566v5 : Obj := ⟨.type "tuple", none, .seq #[.str (Str.ofString "self") 1012, .str (Str.ofString "size") 1013] 0, #[]⟩
noncomputable def y567v5 : Obj := ⟨.type "tuple", none, .seq #[] 0, #[]⟩
noncomputable def y568v5 : Obj := fnR (mAt 16 26) (Str.ofString "StringIO.readline")
noncomputable def y569v5 : Obj := ⟨.type "code", none, .fields #[.str (Str.ofString "readline") 1009, .str (Str.ofString "StringIO.readline") 1010, .str (Str.ofString "/claim/cut.py") 1011, .int (382) 0, .int (2) 0, .int (2) 0, .int (0) 0, .int (3) 0, .ref 564, .bool true, .int (318) 0, .ref 565, .none, .ref 566, .ref 567, .ref 568, .int (1014) 0, .int (382) 0, .str (Str.ofString "/claim/cut.py") 1015], #[]⟩
noncomputable def y570v5 : Obj := fnO (mAt 16 26) (Str.ofString "StringIO.readline") (.ref 563) (.none) (.none) (.str (Str.ofString "io") 419) (.ref 569) (.none)
noncomputable def y571v5 : Obj := ⟨.type "tuple", none, .seq #[.int (-1) 1018] 0, #[]⟩
noncomputable def y572v5 : Obj := ⟨.type "tuple", none, .seq #[] 0, #[]⟩
noncomputable def y573v5 : Obj := ⟨.none, none, .fields #[], #[]⟩
noncomputable def y574v5 : Obj := ⟨.type "tuple", none, .seq #[.str (Str.ofString "self") 1022, .str (Str.ofString "hint") 1023] 0, #[]⟩
noncomputable def y575v5 : Obj := ⟨.type "tuple", none, .seq #[] 0, #[]⟩
noncomputable def y576v5 : Obj := fnR (mAt 16 27) (Str.ofString "StringIO.readlines")
noncomputable def y577v5 : Obj := ⟨.type "code", none, .fields #[.str (Str.ofString "readlines") 1019, .str (Str.ofString "StringIO.readlines") 1020, .str (Str.ofString "/claim/cut.py") 1021, .int (389) 0, .int (2) 0, .int (2) 0, .int (0) 0, .int (3) 0, .ref 572, .bool true, .int (318) 0, .ref 573, .none, .ref 574, .ref 575, .ref 576, .int (1024) 0, .int (389) 0, .str (Str.ofString "/claim/cut.py") 1025], #[]⟩
noncomputable def y578v5 : Obj := fnO (mAt 16 27) (Str.ofString "StringIO.readlines") (.ref 571) (.none) (.none) (.str (Str.ofString "io") 419) (.ref 577) (.none)
noncomputable def y579v5 : Obj := ⟨.type "tuple", none, .seq #[] 0, #[]⟩
noncomputable def y580v5 : Obj := ⟨.none, none, .fields #[], #[]⟩
noncomputable def y581v5 : Obj := ⟨.type "tuple", none, .seq #[.str (Str.ofString "self") 1030] 0, #[]⟩
noncomputable def y582v5 : Obj := ⟨.type "tuple", none, .seq #[] 0, #[]⟩
noncomputable def y583v5 : Obj := fnR (mAt 16 28) (Str.ofString "StringIO.__iter__")
noncomputable def y584v5 : Obj := ⟨.type "code", none, .fields #[.str (Str.ofString "__iter__") 1027, .str (Str.ofString "StringIO.__iter__") 1028, .str (Str.ofString "/claim/cut.py") 1029, .int (392) 0, .int (1) 0, .int (0) 0, .int (0) 0, .int (3) 0, .ref 579, .bool true, .int (318) 0, .ref 580, .none, .ref 581, .ref 582, .ref 583, .int (1031) 0, .int (392) 0, .str (Str.ofString "/claim/cut.py") 1032], #[]⟩
noncomputable def y585v5 : Obj := fnO (mAt 16 28) (Str.ofString "StringIO.__iter__") (.none) (.none) (.none) (.str (Str.ofString "io") 419) (.ref 584) (.none)
noncomputable def y586v5 : Obj := ⟨.type "tuple", none, .seq #[] 0, #[]⟩
noncomputable def y587v5 : Obj := ⟨.none, none, .fields #[], #[]⟩
noncomputable def y588v5 : Obj := ⟨.type "tuple", none, .seq #[.str (Str.ofString "self") 1037, .str (Str.ofString "line") 1038] 0, #[]⟩
noncomputable def y589v5 : Obj := ⟨.type "tuple", none, .seq #[] 0, #[]⟩
noncomputable def y590v5 : Obj := fnR (mAt 16 29) (Str.ofString "StringIO.__next__")
noncomputable def y591v5 : Obj := ⟨.type "code", none, .fields #[.str (Str.ofString "__next__") 1034, .str (Str.ofString "StringIO.__next__") 1035, .str (Str.ofString "/claim/cut.py") 1036, .int (396) 0, .int (1) 0, .int (0) 0, .int (0) 0, .int (3) 0, .ref 586, .bool true, .int (318) 0, .ref 587, .none, .ref 588, .ref 589, .ref 590, .int (1039) 0, .int (396) 0, .str (Str.ofString "/claim/cut.py") 1040], #[]⟩
noncomputable def y592v5 : Obj := fnO (mAt 16 29) (Str.ofString "StringIO.__next__") (.none) (.none) (.none) (.str (Str.ofString "io") 419) (.ref 591) (.none)
noncomputable def y593v5 : Obj := ⟨.type "tuple", none, .seq #[] 0, #[]⟩
noncomputable def y594v5 : Obj := ⟨.none, none, .fields #[], #[]⟩
noncomputable def y595v5 : Obj := ⟨.type "tuple", none, .seq #[.str (Str.ofString "self") 1045, .str (Str.ofString "s") 1046, .str (Str.ofString "n") 1047, .str (Str.ofString "m") 1048, .str (Str.ofString "start") 1049, .str (Str.ofString "buf") 1050] 0, #[]⟩
noncomputable def y596v5 : Obj := ⟨.type "tuple", none, .seq #[] 0, #[]⟩
noncomputable def y597v5 : Obj := fnR (mAt 16 30) (Str.ofString "StringIO.write")
noncomputable def y598v5 : Obj := ⟨.type "code", none, .fields #[.str (Str.ofString "write") 1042, .str (Str.ofString "StringIO.write") 1043, .str (Str.ofString "/claim/cut.py") 1044, .int (403) 0, .int (2) 0, .int (2) 0, .int (0) 0, .int (3) 0, .ref 593, .bool true, .int (318) 0, .ref 594, .none, .ref 595, .ref 596, .ref 597, .int (1051) 0, .int (403) 0, .str (Str.ofString "/claim/cut.py") 1052], #[]⟩
noncomputable def y599v5 : Obj := fnO (mAt 16 30) (Str.ofString "StringIO.write") (.none) (.none) (.none) (.str (Str.ofString "io") 419) (.ref 598) (.none)
noncomputable def y600v5 : Obj := ⟨.type "tuple", none, .seq #[] 0, #[]⟩
noncomputable def y601v5 : Obj := ⟨.none, none, .fields #[], #[]⟩
noncomputable def y602v5 : Obj := ⟨.type "tuple", none, .seq #[.str (Str.ofString "self") 1057, .str (Str.ofString "lines") 1058] 0, #[]⟩
noncomputable def y603v5 : Obj := ⟨.type "tuple", none, .seq #[] 0, #[]⟩
noncomputable def y604v5 : Obj := fnR (mAt 16 31) (Str.ofString "StringIO.writelines")
noncomputable def y605v5 : Obj := ⟨.type "code", none, .fields #[.str (Str.ofString "writelines") 1054, .str (Str.ofString "StringIO.writelines") 1055, .str (Str.ofString "/claim/cut.py") 1056, .int (422) 0, .int (2) 0, .int (2) 0, .int (0) 0, .int (3) 0, .ref 600, .bool true, .int (318) 0, .ref 601, .none, .ref 602, .ref 603, .ref 604, .int (1059) 0, .int (422) 0, .str (Str.ofString "/claim/cut.py") 1060], #[]⟩
noncomputable def y606v5 : Obj := fnO (mAt 16 31) (Str.ofString "StringIO.writelines") (.none) (.none) (.none) (.str (Str.ofString "io") 419) (.ref 605) (.none)
noncomputable def y607v5 : Obj := ⟨.type "tuple", none, .seq #[] 0, #[]⟩
noncomputable def y608v5 : Obj := ⟨.none, none, .fields #[], #[]⟩
noncomputable def y609v5 : Obj := ⟨.type "tuple", none, .seq #[.str (Str.ofString "self") 1065] 0, #[]⟩
noncomputable def y610v5 : Obj := ⟨.type "tuple", none, .seq #[] 0, #[]⟩
noncomputable def y611v5 : Obj := fnR (mAt 16 32) (Str.ofString "StringIO.__repr__")
noncomputable def y612v5 : Obj := ⟨.type "code", none, .fields #[.str (Str.ofString "__repr__") 1062, .str (Str.ofString "StringIO.__repr__") 1063, .str (Str.ofString "/claim/cut.py") 1064, .int (425) 0, .int (1) 0, .int (0) 0, .int (0) 0, .int (3) 0, .ref 607, .bool true, .int (318) 0, .ref 608, .none, .ref 609, .ref 610, .ref 611, .int (1066) 0, .int (425) 0, .str (Str.ofString "/claim/cut.py") 1067], #[]⟩
noncomputable def y613v5 : Obj := fnO (mAt 16 32) (Str.ofString "StringIO.__repr__") (.none) (.none) (.none) (.str (Str.ofString "io") 419) (.ref 612) (.none)
noncomputable def y614v5 : Obj := ⟨.type "tuple", none, .seq #[.str (Str.ofString "__buf") 1069, .str (Str.ofString "__newline") 1070, .str (Str.ofString "__pos") 1071] 0, #[]⟩
noncomputable def y617v5 : Obj := ⟨.type "super", none, .fields #[.ref 616, .ref 616, .ref 616], #[]⟩
noncomputable def y618v5 : Obj := ⟨.type "builtin_function_or_method", none, .fields #[.builtin "object.__init_subclass__", .ref 616], #[]⟩
noncomputable def hdT5 (P : Params) : BT := (.node (y0v0 P) (.node (y1v0 P) (.node (y3v5 P) (.node y7v0 (.node y15v0 (.node y31v0 (.node o63 (.node y127v4 (.node y255v4 (.node y511v5 .nil .nil) .nil) (.node y383v5 .nil .nil)) (.node y191v4 (.node y319v4 (.node y575v5 .nil .nil) .nil) (.node y447v5 .nil .nil))) (.node y95v2 (.node y159v4 (.node y287v4 (.node y543v5 .nil .nil) .nil) (.node y415v5 .nil .nil)) (.node y223v4 (.node y351v4 (.node y607v5 .nil .nil) .nil) (.node y479v5 .nil .nil)))) (.node y47v2 (.node y79v2 (.node y143v4 (.node y271v4 (.node y527v5 .nil .nil) .nil) (.node o399 .nil .nil)) (.node y207v4 (.node y335v4 (.node y591v5 .nil .nil) .nil) (.node y463v5 .nil .nil))) (.node (o111 P) (.node y175v4 (.node y303v4 (.node y559v5 .nil .nil) .nil) (.node y431v5 .nil .nil)) (.node y239v4 (.node y367v4 .nil .nil) (.node y495v5 .nil .nil))))) (.node y23v0 (.node y39v2 (.node y71v2 (.node y135v3 (.node y263v4 (.node y519v5 .nil .nil) .nil) (.node y391v5 .nil .nil)) (.node y199v4 (.node y327v4 (.node y583v5 .nil .nil) .nil) (.node y455v5 .nil .nil))) (.node y103v3 (.node y167v4 (.node y295v4 (.node y551v5 .nil .nil) .nil) (.node y423v5 .nil .nil)) (.node y231v4 (.node y359v4 (.node (o615 P) .nil .nil) .nil) (.node y487v5 .nil .nil)))) (.node o55 (.node y87v2 (.node y151v4 (.node y279v4 (.node y535v5 .nil .nil) .nil) (.node y407v5 .nil .nil)) (.node y215v4 (.node y343v4 (.node y599v5 .nil .nil) .nil) (.node y471v5 .nil .nil))) (.node y119v3 (.node y183v4 (.node y311v4 (.node y567v5 .nil .nil) .nil) (.node y439v5 .nil .nil)) (.node y247v4 (.node y375v5 .nil .nil) (.node y503v5 .nil .nil)))))) (.node (y11v0 P) (.node y19v0 (.node y35v5 (.node o67 (.node y131v3 (.node y259v4 (.node y515v5 .nil .nil) .nil) (.node y387v5 .nil .nil)) (.node y195v4 (.node y323v4 (.node y579v5 .nil .nil) .nil) (.node y451v5 .nil .nil))) (.node y99v3 (.node y163v4 (.node y291v4 (.node y547v5 .nil .nil) .nil) (.node y419v5 .nil .nil)) (.node y227v4 (.node y355v4 (.node y611v5 .nil .nil) .nil) (.node y483v5 .nil .nil)))) (.node y51v2 (.node y83v2 (.node y147v4 (.node y275v4 (.node y531v5 .nil .nil) .nil) (.node y403v5 .nil .nil)) (.node y211v4 (.node y339v4 (.node y595v5 .nil .nil) .nil) (.node y467v5 .nil .nil))) (.node y115v3 (.node y179v4 (.node y307v4 (.node y563v5 .nil .nil) .nil) (.node y435v5 .nil .nil)) (.node y243v4 (.node y371v4 .nil .nil) (.node y499v5 .nil .nil))))) (.node y27v0 (.node y43v2 (.node y75v2 (.node o139 (.node y267v4 (.node y523v5 .nil .nil) .nil) (.node y395v5 .nil .nil)) (.node y203v4 (.node y331v4 (.node y587v5 .nil .nil) .nil) (.node y459v5 .nil .nil))) (.node y107v3 (.node y171v4 (.node y299v4 (.node o555 .nil .nil) .nil) (.node y427v5 .nil .nil)) (.node y235v4 (.node y363v4 .nil .nil) (.node y491v5 .nil .nil)))) (.node y59v2 (.node (y91v2 P) (.node y155v4 (.node y283v4 (.node y539v5 .nil .nil) .nil) (.node y411v5 .nil .nil)) (.node y219v4 (.node y347v4 (.node y603v5 .nil .nil) .nil) (.node y475v5 .nil .nil))) (.node y123v3 (.node y187v4 (.node y315v4 (.node y571v5 .nil .nil) .nil) (.node y443v5 .nil .nil)) (.node y251v4 (.node o379 .nil .nil) (.node y507v5 .nil .nil))))))) (.node y5v0 (.node y9v0 (.node y17v0 (.node y33v0 (.node (y65v2 P) (.node y129v3 (.node y257v4 (.node y513v5 .nil .nil) .nil) (.node o385 .nil .nil)) (.node y193v4 (.node y321v4 (.node y577v5 .nil .nil) .nil) (.node y449v5 .nil .nil))) (.node y97v3 (.node y161v4 (.node y289v4 (.node y545v5 .nil .nil) .nil) (.node y417v5 .nil .nil)) (.node y225v4 (.node y353v4 (.node y609v5 .nil .nil) .nil) (.node y481v5 .nil .nil)))) (.node o49 (.node o81 (.node y145v4 (.node y273v4 (.node y529v5 .nil .nil) .nil) (.node y401v5 .nil .nil)) (.node y209v4 (.node y337v4 (.node y593v5 .nil .nil) .nil) (.node y465v5 .nil .nil))) (.node o113 (.node y177v4 (.node y305v4 (.node o561 .nil .nil) .nil) (.node y433v5 .nil .nil)) (.node y241v4 (.node o369 .nil .nil) (.node y497v5 .nil .nil))))) (.node y25v0 (.node y41v2 (.node y73v2 (.node y137v3 (.node y265v4 (.node y521v5 .nil .nil) .nil) (.node o393 .nil .nil)) (.node y201v4 (.node y329v4 (.node y585v5 .nil .nil) .nil) (.node y457v5 .nil .nil))) (.node y105v3 (.node y169v4 (.node y297v4 (.node y553v5 .nil .nil) .nil) (.node y425v5 .nil .nil)) (.node y233v4 (.node y361v4 (.node y617v5 .nil .nil) .nil) (.node y489v5 .nil .nil)))) (.node y57v2 (.node y89v2 (.node y153v4 (.node y281v4 (.node y537v5 .nil .nil) .nil) (.node y409v5 .nil .nil)) (.node y217v4 (.node y345v4 (.node y601v5 .nil .nil) .nil) (.node y473v5 .nil .nil))) (.node y121v3 (.node y185v4 (.node y313v4 (.node y569v5 .nil .nil) .nil) (.node y441v5 .nil .nil)) (.node y249v4 (.node y377v5 .nil .nil) (.node y505v5 .nil .nil)))))) (.node (y13v0 P) (.node (y21v0 P) (.node y37v1 (.node y69v2 (.node y133v3 (.node y261v4 (.node y517v5 .nil .nil) .nil) (.node y389v5 .nil .nil)) (.node y197v4 (.node y325v4 (.node y581v5 .nil .nil) .nil) (.node y453v5 .nil .nil))) (.node y101v3 (.node y165v4 (.node y293v4 (.node y549v5 .nil .nil) .nil) (.node y421v5 .nil .nil)) (.node y229v4 (.node y357v4 (.node y613v5 .nil .nil) .nil) (.node y485v5 .nil .nil)))) (.node y53v2 (.node (y85v2 P) (.node y149v4 (.node y277v4 (.node y533v5 .nil .nil) .nil) (.node y405v5 .nil .nil)) (.node y213v4 (.node y341v4 (.node y597v5 .nil .nil) .nil) (.node y469v5 .nil .nil))) (.node y117v3 (.node y181v4 (.node y309v4 (.node y565v5 .nil .nil) .nil) (.node y437v5 .nil .nil)) (.node y245v4 (.node y373v5 .nil .nil) (.node y501v5 .nil .nil))))) (.node (y29v0 P) (.node y45v2 (.node y77v2 (.node y141v3 (.node y269v4 (.node y525v5 .nil .nil) .nil) (.node y397v5 .nil .nil)) (.node y205v4 (.node y333v4 (.node y589v5 .nil .nil) .nil) (.node y461v5 .nil .nil))) (.node o109 (.node y173v4 (.node y301v4 (.node y557v5 .nil .nil) .nil) (.node y429v5 .nil .nil)) (.node y237v4 (.node y365v4 .nil .nil) (.node y493v5 .nil .nil)))) (.node y61v2 (.node y93v2 (.node y157v4 (.node y285v4 (.node y541v5 .nil .nil) .nil) (.node y413v5 .nil .nil)) (.node y221v4 (.node y349v4 (.node y605v5 .nil .nil) .nil) (.node y477v5 .nil .nil))) (.node y125v3 (.node y189v4 (.node y317v4 (.node y573v5 .nil .nil) .nil) (.node y445v5 .nil .nil)) (.node y253v4 (.node y381v5 .nil .nil) (.node y509v5 .nil .nil)))))))) (.node (y2v2 P) (.node y4v0 (.node y8v0 (.node y16v0 (.node (y32v0 P) (.node y64v2 (.node y128v3 (.node y256v4 (.node y512v5 .nil .nil) .nil) (.node y384v5 .nil .nil)) (.node y192v4 (.node y320v4 (.node y576v5 .nil .nil) .nil) (.node y448v5 .nil .nil))) (.node y96v3 (.node y160v4 (.node y288v4 (.node y544v5 .nil .nil) .nil) (.node y416v5 .nil .nil)) (.node y224v4 (.node y352v4 (.node y608v5 .nil .nil) .nil) (.node y480v5 .nil .nil)))) (.node o48 (.node y80v2 (.node (y144v4 P) (.node y272v4 (.node y528v5 .nil .nil) .nil) (.node o400 .nil .nil)) (.node y208v4 (.node y336v4 (.node y592v5 .nil .nil) .nil) (.node y464v5 .nil .nil))) (.node o112 (.node y176v4 (.node y304v4 (.node y560v5 .nil .nil) .nil) (.node y432v5 .nil .nil)) (.node y240v4 (.node (y368v4 P) .nil .nil) (.node y496v5 .nil .nil))))) (.node y24v0 (.node y40v2 (.node y72v2 (.node y136v3 (.node y264v4 (.node y520v5 .nil .nil) .nil) (.node o392 .nil .nil)) (.node y200v4 (.node y328v4 (.node y584v5 .nil .nil) .nil) (.node y456v5 .nil .nil))) (.node y104v3 (.node y168v4 (.node y296v4 (.node y552v5 .nil .nil) .nil) (.node y424v5 .nil .nil)) (.node y232v4 (.node y360v4 (.node o616 .nil .nil) .nil) (.node y488v5 .nil .nil)))) (.node o56 (.node y88v2 (.node y152v4 (.node y280v4 (.node y536v5 .nil .nil) .nil) (.node y408v5 .nil .nil)) (.node y216v4 (.node y344v4 (.node y600v5 .nil .nil) .nil) (.node y472v5 .nil .nil))) (.node (y120v3 P) (.node y184v4 (.node y312v4 (.node y568v5 .nil .nil) .nil) (.node y440v5 .nil .nil)) (.node y248v4 (.node y376v5 .nil .nil) (.node y504v5 .nil .nil)))))) (.node y12v0 (.node (y20v0 P) (.node y36v1 (.node o68 (.node (y132v3 P) (.node y260v4 (.node y516v5 .nil .nil) .nil) (.node y388v5 .nil .nil)) (.node y196v4 (.node y324v4 (.node y580v5 .nil .nil) .nil) (.node y452v5 .nil .nil))) (.node y100v3 (.node y164v4 (.node y292v4 (.node y548v5 .nil .nil) .nil) (.node y420v5 .nil .nil)) (.node y228v4 (.node y356v4 (.node y612v5 .nil .nil) .nil) (.node y484v5 .nil .nil)))) (.node y52v2 (.node y84v2 (.node y148v4 (.node y276v4 (.node y532v5 .nil .nil) .nil) (.node y404v5 .nil .nil)) (.node y212v4 (.node y340v4 (.node y596v5 .nil .nil) .nil) (.node y468v5 .nil .nil))) (.node y116v3 (.node y180v4 (.node y308v4 (.node y564v5 .nil .nil) .nil) (.node y436v5 .nil .nil)) (.node y244v4 (.node y372v5 .nil .nil) (.node y500v5 .nil .nil))))) (.node y28v0 (.node y44v2 (.node y76v2 (.node y140v3 (.node y268v4 (.node y524v5 .nil .nil) .nil) (.node y396v5 .nil .nil)) (.node y204v4 (.node y332v4 (.node y588v5 .nil .nil) .nil) (.node y460v5 .nil .nil))) (.node o108 (.node y172v4 (.node y300v4 (.node y556v5 .nil .nil) .nil) (.node y428v5 .nil .nil)) (.node y236v4 (.node y364v4 .nil .nil) (.node y492v5 .nil .nil)))) (.node y60v2 (.node y92v2 (.node y156v4 (.node y284v4 (.node y540v5 .nil .nil) .nil) (.node y412v5 .nil .nil)) (.node y220v4 (.node y348v4 (.node y604v5 .nil .nil) .nil) (.node y476v5 .nil .nil))) (.node y124v3 (.node y188v4 (.node y316v4 (.node y572v5 .nil .nil) .nil) (.node y444v5 .nil .nil)) (.node y252v4 (.node y380v5 .nil .nil) (.node y508v5 .nil .nil))))))) (.node (y6v0 P) (.node y10v0 (.node y18v0 (.node y34v1 (.node y66v2 (.node y130v3 (.node y258v4 (.node y514v5 .nil .nil) .nil) (.node o386 .nil .nil)) (.node y194v4 (.node y322v4 (.node y578v5 .nil .nil) .nil) (.node y450v5 .nil .nil))) (.node (y98v3 P) (.node y162v4 (.node y290v4 (.node y546v5 .nil .nil) .nil) (.node y418v5 .nil .nil)) (.node y226v4 (.node y354v4 (.node y610v5 .nil .nil) .nil) (.node y482v5 .nil .nil)))) (.node y50v2 (.node o82 (.node y146v4 (.node y274v4 (.node y530v5 .nil .nil) .nil) (.node y402v5 .nil .nil)) (.node y210v4 (.node y338v4 (.node y594v5 .nil .nil) .nil) (.node y466v5 .nil .nil))) (.node y114v3 (.node y178v4 (.node y306v4 (.node o562 .nil .nil) .nil) (.node y434v5 .nil .nil)) (.node y242v4 (.node y370v4 .nil .nil) (.node y498v5 .nil .nil))))) (.node y26v0 (.node y42v2 (.node y74v2 (.node (o138 P) (.node y266v4 (.node y522v5 .nil .nil) .nil) (.node y394v5 .nil .nil)) (.node y202v4 (.node y330v4 (.node y586v5 .nil .nil) .nil) (.node y458v5 .nil .nil))) (.node y106v3 (.node y170v4 (.node y298v4 (.node y554v5 .nil .nil) .nil) (.node y426v5 .nil .nil)) (.node y234v4 (.node y362v4 (.node y618v5 .nil .nil) .nil) (.node y490v5 .nil .nil)))) (.node y58v2 (.node y90v2 (.node y154v4 (.node y282v4 (.node y538v5 .nil .nil) .nil) (.node y410v5 .nil .nil)) (.node y218v4 (.node y346v4 (.node y602v5 .nil .nil) .nil) (.node y474v5 .nil .nil))) (.node y122v3 (.node y186v4 (.node y314v4 (.node y570v5 .nil .nil) .nil) (.node y442v5 .nil .nil)) (.node y250v4 (.node y378v5 .nil .nil) (.node y506v5 .nil .nil)))))) (.node y14v0 (.node y22v0 (.node y38v2 (.node y70v2 (.node y134v3 (.node y262v4 (.node y518v5 .nil .nil) .nil) (.node y390v5 .nil .nil)) (.node y198v4 (.node y326v4 (.node y582v5 .nil .nil) .nil) (.node y454v5 .nil .nil))) (.node y102v3 (.node y166v4 (.node y294v4 (.node y550v5 .nil .nil) .nil) (.node y422v5 .nil .nil)) (.node y230v4 (.node y358v4 (.node y614v5 .nil .nil) .nil) (.node y486v5 .nil .nil)))) (.node y54v2 (.node y86v2 (.node y150v4 (.node y278v4 (.node y534v5 .nil .nil) .nil) (.node y406v5 .nil .nil)) (.node y214v4 (.node y342v4 (.node y598v5 .nil .nil) .nil) (.node y470v5 .nil .nil))) (.node y118v3 (.node y182v4 (.node y310v4 (.node y566v5 .nil .nil) .nil) (.node y438v5 .nil .nil)) (.node y246v4 (.node (y374v5 P) .nil .nil) (.node y502v5 .nil .nil))))) (.node y30v0 (.node (y46v2 P) (.node y78v2 (.node y142v4 (.node y270v4 (.node y526v5 .nil .nil) .nil) (.node y398v5 .nil .nil)) (.node y206v4 (.node y334v4 (.node y590v5 .nil .nil) .nil) (.node y462v5 .nil .nil))) (.node y110v3 (.node y174v4 (.node y302v4 (.node y558v5 .nil .nil) .nil) (.node y430v5 .nil .nil)) (.node y238v4 (.node y366v4 .nil .nil) (.node y494v5 .nil .nil)))) (.node o62 (.node y94v2 (.node y158v4 (.node y286v4 (.node y542v5 .nil .nil) .nil) (.node y414v5 .nil .nil)) (.node y222v4 (.node y350v4 (.node y606v5 .nil .nil) .nil) (.node y478v5 .nil .nil))) (.node (y126v3 P) (.node y190v4 (.node y318v4 (.node y574v5 .nil .nil) .nil) (.node y446v5 .nil .nil)) (.node y254v4 (.node y382v5 .nil .nil) (.node y510v5 .nil .nil)))))))))
noncomputable def y3v6 (P : Params) : Obj := ⟨.type "dict", none, .dict #[en P (Str.ofString "__name__") 165 (.str (Str.ofString "cpy313.shlex") 1135), en P (Str.ofString "__doc__") 166 (.none), en P (Str.ofString "__package__") 167 (.none), en P (Str.ofString "__loader__") 168 (.builtin "__main__.__loader__#opaque"), en P (Str.ofString "__spec__") 169 (.none), en P (Str.ofString "__annotations__") 170 (.ref 6), en P (Str.ofString "__builtins__") 171 (.ref 4), en P (Str.ofString "__file__") 173 (.str (Str.ofString "/claim/cut.py") 172), en P (Str.ofString "__cached__") 174 (.none), en P (Str.ofString "_sre") 275 (.ref 12), en P (Str.ofString "deque") 317 (.type "collections.deque"), en P (Str.ofString "_wall") 330 (.ref 44), en P (Str.ofString "IPV4_RE") 362 (.ref 49), en P (Str.ofString "liberal_is_HDN") 369 (.ref 56), en P (Str.ofString "user_domain_match") 378 (.ref 63), en P (Str.ofString "_twin_re_1") 418 (.ref 68), en P (Str.ofString "_whence") 428 (.ref 75), en P (Str.ofString "_index") 436 (.ref 82), en P (Str.ofString "UnsupportedOperation") 458 (.ref 92), en P (Str.ofString "IOBase") 490 (.ref 112), en P (Str.ofString "BufferedIOBase") 508 (.ref 127), en P (Str.ofString "TextIOBase") 526 (.ref 139), en P (Str.ofString "BytesIO") 788 (.ref 369), en P (Str.ofString "StringIO") 1075 (.ref 616), en P (Str.ofString "_kind") 1086 (.ref 625), en P (Str.ofString "_fspath") 1095 (.ref 632), en P (Str.ofString "_check_arg_types") 1105 (.ref 639), en P (Str.ofString "isabs") 1112 (.ref 646), en P (Str.ofString "join") 1123 (.ref 653), en P (Str.ofString "join_path") 1124 (.ref 653), en P (Str.ofString "dirname") 1134 (.ref 660), en P (Str.ofString "shlex") 1275 (.ref 751)] 32, #[]⟩
noncomputable def y35v6 : Obj := ⟨.none, none, .fields #[.int (3) 0, .int (0) 0, .ref 43, .int (8) 0, .int (0) 0, .ref 55, .int (12) 0, .int (0) 0, .ref 62, .int (27) 0, .int (0) 0, .ref 74, .int (32) 0, .int (0) 0, .ref 81, .int (39) 0, .int (0) 0, .ref 88, .int (41) 0, .int (0) 0, .ref 101, .int (48) 0, .int (0) 0, .ref 123, .int (50) 0, .int (0) 0, .ref 135, .int (52) 0, .int (0) 0, .ref 147, .int (222) 0, .int (0) 0, .ref 377, .int (428) 0, .int (0) 0, .ref 624, .int (449) 0, .int (0) 0, .ref 631, .int (454) 0, .int (0) 0, .ref 638, .int (459) 0, .int (0) 0, .ref 645, .int (462) 0, .int (0) 0, .ref 652, .int (483) 0, .int (0) 0, .ref 659, .int (492) 0, .int (0) 0, .ref 666], #[]⟩
noncomputable def y619v6 : Obj := ⟨.type "tuple", none, .seq #[] 0, #[]⟩
noncomputable def y620v6 : Obj := ⟨.none, none, .fields #[], #[]⟩
noncomputable def y621v6 : Obj := ⟨.type "tuple", none, .seq #[.str (Str.ofString "name") 1081, .str (Str.ofString "x") 1082, .str (Str.ofString "t") 1083] 0, #[]⟩
noncomputable def y622v6 : Obj := ⟨.type "tuple", none, .seq #[] 0, #[]⟩
noncomputable def y623v6 : Obj := fnR (stAt 18) (Str.ofString "_kind")
noncomputable def y624v6 : Obj := ⟨.type "code", none, .fields #[.str (Str.ofString "_kind") 1078, .str (Str.ofString "_kind") 1079, .str (Str.ofString "/claim/cut.py") 1080, .int (428) 0, .int (2) 0, .int (0) 0, .int (0) 0, .int (3) 0, .ref 619, .bool true, .int (318) 0, .ref 620, .none, .ref 621, .ref 622, .ref 623, .int (1084) 0, .int (428) 0, .str (Str.ofString "/claim/cut.py") 1085], #[]⟩
noncomputable def y625v6 : Obj := fnO (stAt 18) (Str.ofString "_kind") (.none) (.none) (.none) (.str (Str.ofString "os.path") 1076) (.ref 624) (.none)
noncomputable def y626v6 : Obj := ⟨.type "tuple", none, .seq #[] 0, #[]⟩
noncomputable def y627v6 : Obj := ⟨.none, none, .fields #[], #[]⟩
noncomputable def y628v6 : Obj := ⟨.type "tuple", none, .seq #[.str (Str.ofString "name") 1090, .str (Str.ofString "x") 1091, .str (Str.ofString "k") 1092] 0, #[]⟩
noncomputable def y629v6 : Obj := ⟨.type "tuple", none, .seq #[] 0, #[]⟩
noncomputable def y630v6 : Obj := fnR (stAt 19) (Str.ofString "_fspath")
noncomputable def y631v6 : Obj := ⟨.type "code", none, .fields #[.str (Str.ofString "_fspath") 1087, .str (Str.ofString "_fspath") 1088, .str (Str.ofString "/claim/cut.py") 1089, .int (449) 0, .int (2) 0, .int (0) 0, .int (0) 0, .int (3) 0, .ref 626, .bool true, .int (318) 0, .ref 627, .none, .ref 628, .ref 629, .ref 630, .int (1093) 0, .int (449) 0, .str (Str.ofString "/claim/cut.py") 1094], #[]⟩
noncomputable def y632v6 : Obj := fnO (stAt 19) (Str.ofString "_fspath") (.none) (.none) (.none) (.str (Str.ofString "os.path") 1076) (.ref 631) (.none)
noncomputable def y633v6 : Obj := ⟨.type "tuple", none, .seq #[] 0, #[]⟩
noncomputable def y634v6 : Obj := ⟨.none, none, .fields #[], #[]⟩
noncomputable def y635v6 : Obj := ⟨.type "tuple", none, .seq #[.str (Str.ofString "funcname") 1099, .str (Str.ofString "args") 1100, .str (Str.ofString "s") 1101, .str (Str.ofString "k") 1102] 0, #[]⟩
noncomputable def y636v6 : Obj := ⟨.type "tuple", none, .seq #[] 0, #[]⟩
noncomputable def y637v6 : Obj := fnR (stAt 20) (Str.ofString "_check_arg_types")
noncomputable def y638v6 : Obj := ⟨.type "code", none, .fields #[.str (Str.ofString "_check_arg_types") 1096, .str (Str.ofString "_check_arg_types") 1097, .str (Str.ofString "/claim/cut.py") 1098, .int (454) 0, .int (1) 0, .int (0) 0, .int (0) 0, .int (7) 0, .ref 633, .bool true, .int (318) 0, .ref 634, .none, .ref 635, .ref 636, .ref 637, .int (1103) 0, .int (454) 0, .str (Str.ofString "/claim/cut.py") 1104], #[]⟩
noncomputable def y639v6 : Obj := fnO (stAt 20) (Str.ofString "_check_arg_types") (.none) (.none) (.none) (.str (Str.ofString "os.path") 1076) (.ref 638) (.none)
noncomputable def y640v6 : Obj := ⟨.type "tuple", none, .seq #[] 0, #[]⟩
noncomputable def y641v6 : Obj := ⟨.none, none, .fields #[], #[]⟩
noncomputable def y642v6 : Obj := ⟨.type "tuple", none, .seq #[.str (Str.ofString "s") 1109] 0, #[]⟩
noncomputable def y643v6 : Obj := ⟨.type "tuple", none, .seq #[] 0, #[]⟩
noncomputable def y644v6 : Obj := fnR (stAt 21) (Str.ofString "isabs")
noncomputable def y645v6 : Obj := ⟨.type "code", none, .fields #[.str (Str.ofString "isabs") 1106, .str (Str.ofString "isabs") 1107, .str (Str.ofString "/claim/cut.py") 1108, .int (459) 0, .int (1) 0, .int (0) 0, .int (0) 0, .int (3) 0, .ref 640, .bool true, .int (318) 0, .ref 641, .none, .ref 642, .ref 643, .ref 644, .int (1110) 0, .int (459) 0, .str (Str.ofString "/claim/cut.py") 1111], #[]⟩
noncomputable def y646v6 : Obj := fnO (stAt 21) (Str.ofString "isabs") (.none) (.none) (.none) (.str (Str.ofString "os.path") 1076) (.ref 645) (.none)
noncomputable def y647v6 : Obj := ⟨.type "tuple", none, .seq #[] 0, #[]⟩
noncomputable def y648v6 : Obj := ⟨.none, none, .fields #[], #[]⟩
noncomputable def y649v6 : Obj := ⟨.type "tuple", none, .seq #[.str (Str.ofString "a") 1116, .str (Str.ofString "p") 1117, .str (Str.ofString "b") 1118, .str (Str.ofString "sep") 1119, .str (Str.ofString "path") 1120] 0, #[]⟩
noncomputable def y650v6 : Obj := ⟨.type "tuple", none, .seq #[] 0, #[]⟩
noncomputable def y651v6 : Obj := fnR (stAt 22) (Str.ofString "join")
noncomputable def y652v6 : Obj := ⟨.type "code", none, .fields #[.str (Str.ofString "join") 1113, .str (Str.ofString "join") 1114, .str (Str.ofString "/claim/cut.py") 1115, .int (462) 0, .int (1) 0, .int (0) 0, .int (0) 0, .int (7) 0, .ref 647, .bool true, .int (318) 0, .ref 648, .none, .ref 649, .ref 650, .ref 651, .int (1121) 0, .int (462) 0, .str (Str.ofString "/claim/cut.py") 1122], #[]⟩
noncomputable def y653v6 : Obj := fnO (stAt 22) (Str.ofString "join") (.none) (.none) (.none) (.str (Str.ofString "os.path") 1076) (.ref 652) (.none)
noncomputable def y654v6 : Obj := ⟨.type "tuple", none, .seq #[] 0, #[]⟩
noncomputable def y655v6 : Obj := ⟨.none, none, .fields #[], #[]⟩
noncomputable def y656v6 : Obj := ⟨.type "tuple", none, .seq #[.str (Str.ofString "p") 1128, .str (Str.ofString "sep") 1129, .str (Str.ofString "i") 1130, .str (Str.ofString "head") 1131] 0, #[]⟩
noncomputable def y657v6 : Obj := ⟨.type "tuple", none, .seq #[] 0, #[]⟩
noncomputable def y658v6 : Obj := fnR (stAt 24) (Str.ofString "dirname")
noncomputable def y659v6 : Obj := ⟨.type "code", none, .fields #[.str (Str.ofString "dirname") 1125, .str (Str.ofString "dirname") 1126, .str (Str.ofString "/claim/cut.py") 1127, .int (483) 0, .int (1) 0, .int (0) 0, .int (0) 0, .int (3) 0, .ref 654, .bool true, .int (318) 0, .ref 655, .none, .ref 656, .ref 657, .ref 658, .int (1132) 0, .int (483) 0, .str (Str.ofString "/claim/cut.py") 1133], #[]⟩
noncomputable def y660v6 : Obj := fnO (stAt 24) (Str.ofString "dirname") (.none) (.none) (.none) (.str (Str.ofString "os.path") 1076) (.ref 659) (.none)
noncomputable def y661v6 : Obj := ⟨.type "tuple", none, .seq #[] 0, #[]⟩
noncomputable def y662v6 : Obj := ⟨.type "builtin_function_or_method", none, .fields #[.builtin "type.__prepare__", .type "type"], #[]⟩
noncomputable def y663v6 (P : Params) : Obj := ⟨.type "dict", none, .dict #[en P (Str.ofString "__module__") 1144 (.str (Str.ofString "cpy313.shlex") 1135), en P (Str.ofString "__qualname__") 1146 (.str (Str.ofString "shlex") 1145), en P (Str.ofString "__firstlineno__") 1148 (.int (492) 1147), en P (Str.ofString "__init__") 1160 (.ref 675), en P (Str.ofString "punctuation_chars") 1168 (.ref 683), en P (Str.ofString "push_token") 1176 (.ref 690), en P (Str.ofString "push_source") 1185 (.ref 698), en P (Str.ofString "pop_source") 1192 (.ref 705), en P (Str.ofString "get_token") 1204 (.ref 712), en P (Str.ofString "read_token") 1215 (.ref 719), en P (Str.ofString "sourcehook") 1223 (.ref 726), en P (Str.ofString "error_leader") 1232 (.ref 734), en P (Str.ofString "__iter__") 1239 (.ref 741), en P (Str.ofString "__next__") 1247 (.ref 748), en P (Str.ofString "__static_attributes__") 1268 (.ref 749)] 15, #[]⟩
noncomputable def y664v6 : Obj := ⟨.type "tuple", none, .seq #[] 0, #[]⟩
noncomputable def y665v6 : Obj := ⟨.none, none, .fields #[.int (494) 0, .int (4) 0, .ref 674, .int (536) 0, .int (4) 0, .ref 681, .int (539) 0, .int (4) 0, .ref 689, .int (542) 0, .int (4) 0, .ref 697, .int (555) 0, .int (4) 0, .ref 704, .int (562) 0, .int (4) 0, .ref 711, .int (589) 0, .int (4) 0, .ref 718, .int (726) 0, .int (4) 0, .ref 725, .int (733) 0, .int (4) 0, .ref 733, .int (736) 0, .int (4) 0, .ref 740, .int (739) 0, .int (4) 0, .ref 747], #[]⟩
noncomputable def y666v6 : Obj := ⟨.type "code", none, .fields #[.str (Str.ofString "shlex") 1139, .str (Str.ofString "shlex") 1140, .str (Str.ofString "/claim/cut.py") 1141, .int (492) 0, .int (0) 0, .int (0) 0, .int (0) 0, .int (0) 0, .ref 664, .bool false, .int (318) 0, .ref 665, .none, .none, .none, .none, .int (1142) 0, .int (492) 0, .str (Str.ofString "/claim/cut.py") 1143], #[]⟩
noncomputable def y667v6 : Obj := ⟨.type "frame", none, .plain, #[some (.ref 666), some (.ref 3), some (.ref 663), none, some (.str (Str.ofString "cpy313.shlex") 1135), none, some (.ref 0)]⟩
noncomputable def y669v6 : Obj := ⟨.type "tuple", none, .seq #[] 0, #[]⟩
noncomputable def y670v6 : Obj := ⟨.none, none, .fields #[], #[]⟩
noncomputable def y671v6 : Obj := ⟨.type "tuple", none, .seq #[.str (Str.ofString "self") 1152, .str (Str.ofString "instream") 1153, .str (Str.ofString "infile") 1154, .str (Str.ofString "posix") 1155, .str (Str.ofString "punctuation_chars") 1156, .str (Str.ofString "t") 1157] 0, #[]⟩
noncomputable def y672v6 : Obj := ⟨.type "tuple", none, .seq #[] 0, #[]⟩
noncomputable def y673v6 : Obj := fnR (mAt 26 0) (Str.ofString "shlex.__init__")
noncomputable def y676v6 : Obj := ⟨.type "tuple", none, .seq #[] 0, #[]⟩
noncomputable def y677v6 : Obj := ⟨.none, none, .fields #[], #[]⟩
noncomputable def y678v6 : Obj := ⟨.type "tuple", none, .seq #[.str (Str.ofString "self") 1164] 0, #[]⟩
noncomputable def y679v6 : Obj := ⟨.type "tuple", none, .seq #[] 0, #[]⟩
noncomputable def y680v6 : Obj := fnR (mAt 26 1) (Str.ofString "shlex.punctuation_chars")
noncomputable def y684v6 : Obj := ⟨.type "tuple", none, .seq #[] 0, #[]⟩
noncomputable def y685v6 : Obj := ⟨.none, none, .fields #[], #[]⟩
noncomputable def y686v6 : Obj := ⟨.type "tuple", none, .seq #[.str (Str.ofString "self") 1172, .str (Str.ofString "tok") 1173] 0, #[]⟩
noncomputable def y687v6 : Obj := ⟨.type "tuple", none, .seq #[] 0, #[]⟩
noncomputable def y688v6 : Obj := fnR (mAt 26 2) (Str.ofString "shlex.push_token")
noncomputable def y689v6 : Obj := ⟨.type "code", none, .fields #[.str (Str.ofString "push_token") 1169, .str (Str.ofString "shlex.push_token") 1170, .str (Str.ofString "/claim/cut.py") 1171, .int (539) 0, .int (2) 0, .int (0) 0, .int (0) 0, .int (3) 0, .ref 684, .bool true, .int (318) 0, .ref 685, .none, .ref 686, .ref 687, .ref 688, .int (1174) 0, .int (539) 0, .str (Str.ofString "/claim/cut.py") 1175], #[]⟩
noncomputable def y690v6 : Obj := fnO (mAt 26 2) (Str.ofString "shlex.push_token") (.none) (.none) (.none) (.str (Str.ofString "cpy313.shlex") 1135) (.ref 689) (.none)
noncomputable def y691v6 : Obj := ⟨.type "tuple", none, .seq #[.none] 0, #[]⟩
noncomputable def y692v6 : Obj := ⟨.type "tuple", none, .seq #[] 0, #[]⟩
noncomputable def y693v6 : Obj := ⟨.none, none, .fields #[], #[]⟩
noncomputable def y694v6 : Obj := ⟨.type "tuple", none, .seq #[.str (Str.ofString "self") 1180, .str (Str.ofString "newstream") 1181, .str (Str.ofString "newfile") 1182] 0, #[]⟩
noncomputable def y695v6 : Obj := ⟨.type "tuple", none, .seq #[] 0, #[]⟩
noncomputable def y696v6 : Obj := fnR (mAt 26 3) (Str.ofString "shlex.push_source")
noncomputable def y697v6 : Obj := ⟨.type "code", none, .fields #[.str (Str.ofString "push_source") 1177, .str (Str.ofString "shlex.push_source") 1178, .str (Str.ofString "/claim/cut.py") 1179, .int (542) 0, .int (3) 0, .int (0) 0, .int (0) 0, .int (3) 0, .ref 692, .bool true, .int (318) 0, .ref 693, .none, .ref 694, .ref 695, .ref 696, .int (1183) 0, .int (542) 0, .str (Str.ofString "/claim/cut.py") 1184], #[]⟩
noncomputable def y698v6 : Obj := fnO (mAt 26 3) (Str.ofString "shlex.push_source") (.ref 691) (.none) (.none) (.str (Str.ofString "cpy313.shlex") 1135) (.ref 697) (.none)
noncomputable def y699v6 : Obj := ⟨.type "tuple", none, .seq #[] 0, #[]⟩
noncomputable def y700v6 : Obj := ⟨.none, none, .fields #[], #[]⟩
noncomputable def y701v6 : Obj := ⟨.type "tuple", none, .seq #[.str (Str.ofString "self") 1189] 0, #[]⟩
noncomputable def y702v6 : Obj := ⟨.type "tuple", none, .seq #[] 0, #[]⟩
noncomputable def y703v6 : Obj := fnR (mAt 26 4) (Str.ofString "shlex.pop_source")
noncomputable def y704v6 : Obj := ⟨.type "code", none, .fields #[.str (Str.ofString "pop_source") 1186, .str (Str.ofString "shlex.pop_source") 1187, .str (Str.ofString "/claim/cut.py") 1188, .int (555) 0, .int (1) 0, .int (0) 0, .int (0) 0, .int (3) 0, .ref 699, .bool true, .int (318) 0, .ref 700, .none, .ref 701, .ref 702, .ref 703, .int (1190) 0, .int (555) 0, .str (Str.ofString "/claim/cut.py") 1191], #[]⟩
noncomputable def y705v6 : Obj := fnO (mAt 26 4) (Str.ofString "shlex.pop_source") (.none) (.none) (.none) (.str (Str.ofString "cpy313.shlex") 1135) (.ref 704) (.none)
noncomputable def y706v6 : Obj := ⟨.type "tuple", none, .seq #[] 0, #[]⟩
noncomputable def y707v6 : Obj := ⟨.none, none, .fields #[], #[]⟩
noncomputable def y708v6 : Obj := ⟨.type "tuple", none, .seq #[.str (Str.ofString "self") 1196, .str (Str.ofString "tok") 1197, .str (Str.ofString "raw") 1198, .str (Str.ofString "spec") 1199, .str (Str.ofString "newfile") 1200, .str (Str.ofString "newstream") 1201] 0, #[]⟩
noncomputable def y709v6 : Obj := ⟨.type "tuple", none, .seq #[] 0, #[]⟩
noncomputable def y710v6 : Obj := fnR (mAt 26 5) (Str.ofString "shlex.get_token")
noncomputable def y713v6 : Obj := ⟨.type "tuple", none, .seq #[] 0, #[]⟩
noncomputable def y714v6 : Obj := ⟨.none, none, .fields #[], #[]⟩
noncomputable def y715v6 : Obj := ⟨.type "tuple", none, .seq #[.str (Str.ofString "self") 1208, .str (Str.ofString "quoted") 1209, .str (Str.ofString "escapedstate") 1210, .str (Str.ofString "nextchar") 1211, .str (Str.ofString "result") 1212] 0, #[]⟩
noncomputable def y716v6 : Obj := ⟨.type "tuple", none, .seq #[] 0, #[]⟩
noncomputable def y717v6 : Obj := fnR (mAt 26 6) (Str.ofString "shlex.read_token")
noncomputable def y720v6 : Obj := ⟨.type "tuple", none, .seq #[] 0, #[]⟩
noncomputable def y721v6 : Obj := ⟨.none, none, .fields #[], #[]⟩
noncomputable def y722v6 : Obj := ⟨.type "tuple", none, .seq #[.str (Str.ofString "self") 1219, .str (Str.ofString "newfile") 1220] 0, #[]⟩
noncomputable def y723v6 : Obj := ⟨.type "tuple", none, .seq #[] 0, #[]⟩
noncomputable def y724v6 : Obj := fnR (mAt 26 7) (Str.ofString "shlex.sourcehook")
noncomputable def y725v6 : Obj := ⟨.type "code", none, .fields #[.str (Str.ofString "sourcehook") 1216, .str (Str.ofString "shlex.sourcehook") 1217, .str (Str.ofString "/claim/cut.py") 1218, .int (726) 0, .int (2) 0, .int (0) 0, .int (0) 0, .int (3) 0, .ref 720, .bool true, .int (318) 0, .ref 721, .none, .ref 722, .ref 723, .ref 724, .int (1221) 0, .int (726) 0, .str (Str.ofString "/claim/cut.py") 1222], #[]⟩
noncomputable def y726v6 : Obj := fnO (mAt 26 7) (Str.ofString "shlex.sourcehook") (.none) (.none) (.none) (.str (Str.ofString "cpy313.shlex") 1135) (.ref 725) (.none)
noncomputable def y727v6 : Obj := ⟨.type "tuple", none, .seq #[.none, .none] 0, #[]⟩
noncomputable def y728v6 : Obj := ⟨.type "tuple", none, .seq #[] 0, #[]⟩
noncomputable def y729v6 : Obj := ⟨.none, none, .fields #[], #[]⟩
noncomputable def y730v6 : Obj := ⟨.type "tuple", none, .seq #[.str (Str.ofString "self") 1227, .str (Str.ofString "infile") 1228, .str (Str.ofString "lineno") 1229] 0, #[]⟩
noncomputable def y731v6 : Obj := ⟨.type "tuple", none, .seq #[] 0, #[]⟩
noncomputable def y732v6 : Obj := fnR (mAt 26 8) (Str.ofString "shlex.error_leader")
noncomputable def y733v6 : Obj := ⟨.type "code", none, .fields #[.str (Str.ofString "error_leader") 1224, .str (Str.ofString "shlex.error_leader") 1225, .str (Str.ofString "/claim/cut.py") 1226, .int (733) 0, .int (3) 0, .int (0) 0, .int (0) 0, .int (3) 0, .ref 728, .bool true, .int (318) 0, .ref 729, .none, .ref 730, .ref 731, .ref 732, .int (1230) 0, .int (733) 0, .str (Str.ofString "/claim/cut.py") 1231], #[]⟩
noncomputable def y734v6 : Obj := fnO (mAt 26 8) (Str.ofString "shlex.error_leader") (.ref 727) (.none) (.none) (.str (Str.ofString "cpy313.shlex") 1135) (.ref 733) (.none)
noncomputable def y735v6 : Obj := ⟨.type "tuple", none, .seq #[] 0, #[]⟩
noncomputable def y736v6 : Obj := ⟨.none, none, .fields #[], #[]⟩
noncomputable def y737v6 : Obj := ⟨.type "tuple", none, .seq #[.str (Str.ofString "self") 1236] 0, #[]⟩
noncomputable def y738v6 : Obj := ⟨.type "tuple", none, .seq #[] 0, #[]⟩
noncomputable def y739v6 : Obj := fnR (mAt 26 9) (Str.ofString "shlex.__iter__")
noncomputable def y742v6 : Obj := ⟨.type "tuple", none, .seq #[] 0, #[]⟩
noncomputable def y743v6 : Obj := ⟨.none, none, .fields #[], #[]⟩
noncomputable def y744v6 : Obj := ⟨.type "tuple", none, .seq #[.str (Str.ofString "self") 1243, .str (Str.ofString "token") 1244] 0, #[]⟩
noncomputable def y745v6 : Obj := ⟨.type "tuple", none, .seq #[] 0, #[]⟩
noncomputable def y746v6 : Obj := fnR (mAt 26 10) (Str.ofString "shlex.__next__")
noncomputable def y749v6 : Obj := ⟨.type "tuple", none, .seq #[.str (Str.ofString "_punctuation_chars") 1248, .str (Str.ofString "_pushback_chars") 1249, .str (Str.ofString "commenters") 1250, .str (Str.ofString "debug") 1251, .str (Str.ofString "eof") 1252, .str (Str.ofString "escape") 1253, .str (Str.ofString "escapedquotes") 1254, .str (Str.ofString "filestack") 1255, .str (Str.ofString "infile") 1256, .str (Str.ofString "instream") 1257, .str (Str.ofString "lineno") 1258, .str (Str.ofString "posix") 1259, .str (Str.ofString "pushback") 1260, .str (Str.ofString "quotes") 1261, .str (Str.ofString "source") 1262, .str (Str.ofString "state") 1263, .str (Str.ofString "token") 1264, .str (Str.ofString "whitespace") 1265, .str (Str.ofString "whitespace_split") 1266, .str (Str.ofString "wordchars") 1267] 0, #[]⟩
noncomputable def y752v6 : Obj := ⟨.type "getset_descriptor", none, .fields #[.str (Str.ofString "__dict__") 1269, .ref 751, .builtin "function.__dict__", .builtin "function.__dict__#set"], #[]⟩
noncomputable def y753v6 : Obj := ⟨.type "getset_descriptor", none, .fields #[.str (Str.ofString "__weakref__") 1271, .ref 751, .builtin "ExceptionGroup.__weakref__", .none], #[]⟩
noncomputable def y754v6 : Obj := ⟨.type "super", none, .fields #[.ref 751, .ref 751, .ref 751], #[]⟩
noncomputable def y755v6 : Obj := ⟨.type "builtin_function_or_method", none, .fields #[.builtin "object.__init_subclass__", .ref 751], #[]⟩
noncomputable def hdT6 (P : Params) : BT := (.node (y0v0 P) (.node (y1v0 P) (.node (y3v6 P) (.node y7v0 (.node y15v0 (.node y31v0 (.node o63 (.node y127v4 (.node y255v4 (.node y511v5 .nil .nil) .nil) (.node y383v5 (.node y639v6 .nil .nil) .nil)) (.node y191v4 (.node y319v4 (.node y575v5 .nil .nil) .nil) (.node y447v5 (.node y703v6 .nil .nil) .nil))) (.node y95v2 (.node y159v4 (.node y287v4 (.node y543v5 .nil .nil) .nil) (.node y415v5 (.node y671v6 .nil .nil) .nil)) (.node y223v4 (.node y351v4 (.node y607v5 .nil .nil) .nil) (.node y479v5 (.node y735v6 .nil .nil) .nil)))) (.node y47v2 (.node y79v2 (.node y143v4 (.node y271v4 (.node y527v5 .nil .nil) .nil) (.node o399 (.node y655v6 .nil .nil) .nil)) (.node y207v4 (.node y335v4 (.node y591v5 .nil .nil) .nil) (.node y463v5 (.node o719 .nil .nil) .nil))) (.node (o111 P) (.node y175v4 (.node y303v4 (.node y559v5 .nil .nil) .nil) (.node y431v5 (.node y687v6 .nil .nil) .nil)) (.node y239v4 (.node y367v4 (.node y623v6 .nil .nil) .nil) (.node y495v5 (.node o751 .nil .nil) .nil))))) (.node y23v0 (.node y39v2 (.node y71v2 (.node y135v3 (.node y263v4 (.node y519v5 .nil .nil) .nil) (.node y391v5 (.node y647v6 .nil .nil) .nil)) (.node y199v4 (.node y327v4 (.node y583v5 .nil .nil) .nil) (.node y455v5 (.node o711 .nil .nil) .nil))) (.node y103v3 (.node y167v4 (.node y295v4 (.node y551v5 .nil .nil) .nil) (.node y423v5 (.node y679v6 .nil .nil) .nil)) (.node y231v4 (.node y359v4 (.node (o615 P) .nil .nil) .nil) (.node y487v5 (.node y743v6 .nil .nil) .nil)))) (.node o55 (.node y87v2 (.node y151v4 (.node y279v4 (.node y535v5 .nil .nil) .nil) (.node y407v5 (.node (y663v6 P) .nil .nil) .nil)) (.node y215v4 (.node y343v4 (.node y599v5 .nil .nil) .nil) (.node y471v5 (.node y727v6 .nil .nil) .nil))) (.node y119v3 (.node y183v4 (.node y311v4 (.node y567v5 .nil .nil) .nil) (.node y439v5 (.node y695v6 .nil .nil) .nil)) (.node y247v4 (.node y375v5 (.node y631v6 .nil .nil) .nil) (.node y503v5 .nil .nil)))))) (.node (y11v0 P) (.node y19v0 (.node y35v6 (.node o67 (.node y131v3 (.node y259v4 (.node y515v5 .nil .nil) .nil) (.node y387v5 (.node y643v6 .nil .nil) .nil)) (.node y195v4 (.node y323v4 (.node y579v5 .nil .nil) .nil) (.node y451v5 (.node y707v6 .nil .nil) .nil))) (.node y99v3 (.node y163v4 (.node y291v4 (.node y547v5 .nil .nil) .nil) (.node y419v5 (.node o675 .nil .nil) .nil)) (.node y227v4 (.node y355v4 (.node y611v5 .nil .nil) .nil) (.node y483v5 (.node y739v6 .nil .nil) .nil)))) (.node y51v2 (.node y83v2 (.node y147v4 (.node y275v4 (.node y531v5 .nil .nil) .nil) (.node y403v5 (.node y659v6 .nil .nil) .nil)) (.node y211v4 (.node y339v4 (.node y595v5 .nil .nil) .nil) (.node y467v5 (.node y723v6 .nil .nil) .nil))) (.node y115v3 (.node y179v4 (.node y307v4 (.node y563v5 .nil .nil) .nil) (.node y435v5 (.node y691v6 .nil .nil) .nil)) (.node y243v4 (.node y371v4 (.node y627v6 .nil .nil) .nil) (.node y499v5 (.node y755v6 .nil .nil) .nil))))) (.node y27v0 (.node y43v2 (.node y75v2 (.node o139 (.node y267v4 (.node y523v5 .nil .nil) .nil) (.node y395v5 (.node y651v6 .nil .nil) .nil)) (.node y203v4 (.node y331v4 (.node y587v5 .nil .nil) .nil) (.node y459v5 (.node y715v6 .nil .nil) .nil))) (.node y107v3 (.node y171v4 (.node y299v4 (.node o555 .nil .nil) .nil) (.node y427v5 (.node o683 .nil .nil) .nil)) (.node y235v4 (.node y363v4 (.node y619v6 .nil .nil) .nil) (.node y491v5 (.node o747 .nil .nil) .nil)))) (.node y59v2 (.node (y91v2 P) (.node y155v4 (.node y283v4 (.node y539v5 .nil .nil) .nil) (.node y411v5 (.node y667v6 .nil .nil) .nil)) (.node y219v4 (.node y347v4 (.node y603v5 .nil .nil) .nil) (.node y475v5 (.node y731v6 .nil .nil) .nil))) (.node y123v3 (.node y187v4 (.node y315v4 (.node y571v5 .nil .nil) .nil) (.node y443v5 (.node y699v6 .nil .nil) .nil)) (.node y251v4 (.node o379 (.node y635v6 .nil .nil) .nil) (.node y507v5 .nil .nil))))))) (.node y5v0 (.node y9v0 (.node y17v0 (.node y33v0 (.node (y65v2 P) (.node y129v3 (.node y257v4 (.node y513v5 .nil .nil) .nil) (.node o385 (.node y641v6 .nil .nil) .nil)) (.node y193v4 (.node y321v4 (.node y577v5 .nil .nil) .nil) (.node y449v5 (.node y705v6 .nil .nil) .nil))) (.node y97v3 (.node y161v4 (.node y289v4 (.node y545v5 .nil .nil) .nil) (.node y417v5 (.node y673v6 .nil .nil) .nil)) (.node y225v4 (.node y353v4 (.node y609v5 .nil .nil) .nil) (.node y481v5 (.node y737v6 .nil .nil) .nil)))) (.node o49 (.node o81 (.node y145v4 (.node y273v4 (.node y529v5 .nil .nil) .nil) (.node y401v5 (.node y657v6 .nil .nil) .nil)) (.node y209v4 (.node y337v4 (.node y593v5 .nil .nil) .nil) (.node y465v5 (.node y721v6 .nil .nil) .nil))) (.node o113 (.node y177v4 (.node y305v4 (.node o561 .nil .nil) .nil) (.node y433v5 (.node y689v6 .nil .nil) .nil)) (.node y241v4 (.node o369 (.node y625v6 .nil .nil) .nil) (.node y497v5 (.node y753v6 .nil .nil) .nil))))) (.node y25v0 (.node y41v2 (.node y73v2 (.node y137v3 (.node y265v4 (.node y521v5 .nil .nil) .nil) (.node o393 (.node y649v6 .nil .nil) .nil)) (.node y201v4 (.node y329v4 (.node y585v5 .nil .nil) .nil) (.node y457v5 (.node y713v6 .nil .nil) .nil))) (.node y105v3 (.node y169v4 (.node y297v4 (.node y553v5 .nil .nil) .nil) (.node y425v5 (.node o681 .nil .nil) .nil)) (.node y233v4 (.node y361v4 (.node y617v5 .nil .nil) .nil) (.node y489v5 (.node y745v6 .nil .nil) .nil)))) (.node y57v2 (.node y89v2 (.node y153v4 (.node y281v4 (.node y537v5 .nil .nil) .nil) (.node y409v5 (.node y665v6 .nil .nil) .nil)) (.node y217v4 (.node y345v4 (.node y601v5 .nil .nil) .nil) (.node y473v5 (.node y729v6 .nil .nil) .nil))) (.node y121v3 (.node y185v4 (.node y313v4 (.node y569v5 .nil .nil) .nil) (.node y441v5 (.node y697v6 .nil .nil) .nil)) (.node y249v4 (.node y377v5 (.node y633v6 .nil .nil) .nil) (.node y505v5 .nil .nil)))))) (.node (y13v0 P) (.node (y21v0 P) (.node y37v1 (.node y69v2 (.node y133v3 (.node y261v4 (.node y517v5 .nil .nil) .nil) (.node y389v5 (.node y645v6 .nil .nil) .nil)) (.node y197v4 (.node y325v4 (.node y581v5 .nil .nil) .nil) (.node y453v5 (.node y709v6 .nil .nil) .nil))) (.node y101v3 (.node y165v4 (.node y293v4 (.node y549v5 .nil .nil) .nil) (.node y421v5 (.node y677v6 .nil .nil) .nil)) (.node y229v4 (.node y357v4 (.node y613v5 .nil .nil) .nil) (.node y485v5 (.node o741 .nil .nil) .nil)))) (.node y53v2 (.node (y85v2 P) (.node y149v4 (.node y277v4 (.node y533v5 .nil .nil) .nil) (.node y405v5 (.node y661v6 .nil .nil) .nil)) (.node y213v4 (.node y341v4 (.node y597v5 .nil .nil) .nil) (.node y469v5 (.node y725v6 .nil .nil) .nil))) (.node y117v3 (.node y181v4 (.node y309v4 (.node y565v5 .nil .nil) .nil) (.node y437v5 (.node y693v6 .nil .nil) .nil)) (.node y245v4 (.node y373v5 (.node y629v6 .nil .nil) .nil) (.node y501v5 .nil .nil))))) (.node (y29v0 P) (.node y45v2 (.node y77v2 (.node y141v3 (.node y269v4 (.node y525v5 .nil .nil) .nil) (.node y397v5 (.node y653v6 .nil .nil) .nil)) (.node y205v4 (.node y333v4 (.node y589v5 .nil .nil) .nil) (.node y461v5 (.node y717v6 .nil .nil) .nil))) (.node o109 (.node y173v4 (.node y301v4 (.node y557v5 .nil .nil) .nil) (.node y429v5 (.node y685v6 .nil .nil) .nil)) (.node y237v4 (.node y365v4 (.node y621v6 .nil .nil) .nil) (.node y493v5 (.node y749v6 .nil .nil) .nil)))) (.node y61v2 (.node y93v2 (.node y157v4 (.node y285v4 (.node y541v5 .nil .nil) .nil) (.node y413v5 (.node y669v6 .nil .nil) .nil)) (.node y221v4 (.node y349v4 (.node y605v5 .nil .nil) .nil) (.node y477v5 (.node y733v6 .nil .nil) .nil))) (.node y125v3 (.node y189v4 (.node y317v4 (.node y573v5 .nil .nil) .nil) (.node y445v5 (.node y701v6 .nil .nil) .nil)) (.node y253v4 (.node y381v5 (.node y637v6 .nil .nil) .nil) (.node y509v5 .nil .nil)))))))) (.node (y2v2 P) (.node y4v0 (.node y8v0 (.node y16v0 (.node (y32v0 P) (.node y64v2 (.node y128v3 (.node y256v4 (.node y512v5 .nil .nil) .nil) (.node y384v5 (.node y640v6 .nil .nil) .nil)) (.node y192v4 (.node y320v4 (.node y576v5 .nil .nil) .nil) (.node y448v5 (.node y704v6 .nil .nil) .nil))) (.node y96v3 (.node y160v4 (.node y288v4 (.node y544v5 .nil .nil) .nil) (.node y416v5 (.node y672v6 .nil .nil) .nil)) (.node y224v4 (.node y352v4 (.node y608v5 .nil .nil) .nil) (.node y480v5 (.node y736v6 .nil .nil) .nil)))) (.node o48 (.node y80v2 (.node (y144v4 P) (.node y272v4 (.node y528v5 .nil .nil) .nil) (.node o400 (.node y656v6 .nil .nil) .nil)) (.node y208v4 (.node y336v4 (.node y592v5 .nil .nil) .nil) (.node y464v5 (.node y720v6 .nil .nil) .nil))) (.node o112 (.node y176v4 (.node y304v4 (.node y560v5 .nil .nil) .nil) (.node y432v5 (.node y688v6 .nil .nil) .nil)) (.node y240v4 (.node (y368v4 P) (.node y624v6 .nil .nil) .nil) (.node y496v5 (.node y752v6 .nil .nil) .nil))))) (.node y24v0 (.node y40v2 (.node y72v2 (.node y136v3 (.node y264v4 (.node y520v5 .nil .nil) .nil) (.node o392 (.node y648v6 .nil .nil) .nil)) (.node y200v4 (.node y328v4 (.node y584v5 .nil .nil) .nil) (.node y456v5 (.node o712 .nil .nil) .nil))) (.node y104v3 (.node y168v4 (.node y296v4 (.node y552v5 .nil .nil) .nil) (.node y424v5 (.node y680v6 .nil .nil) .nil)) (.node y232v4 (.node y360v4 (.node o616 .nil .nil) .nil) (.node y488v5 (.node y744v6 .nil .nil) .nil)))) (.node o56 (.node y88v2 (.node y152v4 (.node y280v4 (.node y536v5 .nil .nil) .nil) (.node y408v5 (.node y664v6 .nil .nil) .nil)) (.node y216v4 (.node y344v4 (.node y600v5 .nil .nil) .nil) (.node y472v5 (.node y728v6 .nil .nil) .nil))) (.node (y120v3 P) (.node y184v4 (.node y312v4 (.node y568v5 .nil .nil) .nil) (.node y440v5 (.node y696v6 .nil .nil) .nil)) (.node y248v4 (.node y376v5 (.node y632v6 .nil .nil) .nil) (.node y504v5 .nil .nil)))))) (.node y12v0 (.node (y20v0 P) (.node y36v1 (.node o68 (.node (y132v3 P) (.node y260v4 (.node y516v5 .nil .nil) .nil) (.node y388v5 (.node y644v6 .nil .nil) .nil)) (.node y196v4 (.node y324v4 (.node y580v5 .nil .nil) .nil) (.node y452v5 (.node y708v6 .nil .nil) .nil))) (.node y100v3 (.node y164v4 (.node y292v4 (.node y548v5 .nil .nil) .nil) (.node y420v5 (.node y676v6 .nil .nil) .nil)) (.node y228v4 (.node y356v4 (.node y612v5 .nil .nil) .nil) (.node y484v5 (.node o740 .nil .nil) .nil)))) (.node y52v2 (.node y84v2 (.node y148v4 (.node y276v4 (.node y532v5 .nil .nil) .nil) (.node y404v5 (.node y660v6 .nil .nil) .nil)) (.node y212v4 (.node y340v4 (.node y596v5 .nil .nil) .nil) (.node y468v5 (.node y724v6 .nil .nil) .nil))) (.node y116v3 (.node y180v4 (.node y308v4 (.node y564v5 .nil .nil) .nil) (.node y436v5 (.node y692v6 .nil .nil) .nil)) (.node y244v4 (.node y372v5 (.node y628v6 .nil .nil) .nil) (.node y500v5 .nil .nil))))) (.node y28v0 (.node y44v2 (.node y76v2 (.node y140v3 (.node y268v4 (.node y524v5 .nil .nil) .nil) (.node y396v5 (.node y652v6 .nil .nil) .nil)) (.node y204v4 (.node y332v4 (.node y588v5 .nil .nil) .nil) (.node y460v5 (.node y716v6 .nil .nil) .nil))) (.node o108 (.node y172v4 (.node y300v4 (.node y556v5 .nil .nil) .nil) (.node y428v5 (.node y684v6 .nil .nil) .nil)) (.node y236v4 (.node y364v4 (.node y620v6 .nil .nil) .nil) (.node y492v5 (.node o748 .nil .nil) .nil)))) (.node y60v2 (.node y92v2 (.node y156v4 (.node y284v4 (.node y540v5 .nil .nil) .nil) (.node y412v5 (.node o668 .nil .nil) .nil)) (.node y220v4 (.node y348v4 (.node y604v5 .nil .nil) .nil) (.node y476v5 (.node y732v6 .nil .nil) .nil))) (.node y124v3 (.node y188v4 (.node y316v4 (.node y572v5 .nil .nil) .nil) (.node y444v5 (.node y700v6 .nil .nil) .nil)) (.node y252v4 (.node y380v5 (.node y636v6 .nil .nil) .nil) (.node y508v5 .nil .nil))))))) (.node (y6v0 P) (.node y10v0 (.node y18v0 (.node y34v1 (.node y66v2 (.node y130v3 (.node y258v4 (.node y514v5 .nil .nil) .nil) (.node o386 (.node y642v6 .nil .nil) .nil)) (.node y194v4 (.node y322v4 (.node y578v5 .nil .nil) .nil) (.node y450v5 (.node y706v6 .nil .nil) .nil))) (.node (y98v3 P) (.node y162v4 (.node y290v4 (.node y546v5 .nil .nil) .nil) (.node y418v5 (.node o674 .nil .nil) .nil)) (.node y226v4 (.node y354v4 (.node y610v5 .nil .nil) .nil) (.node y482v5 (.node y738v6 .nil .nil) .nil)))) (.node y50v2 (.node o82 (.node y146v4 (.node y274v4 (.node y530v5 .nil .nil) .nil) (.node y402v5 (.node y658v6 .nil .nil) .nil)) (.node y210v4 (.node y338v4 (.node y594v5 .nil .nil) .nil) (.node y466v5 (.node y722v6 .nil .nil) .nil))) (.node y114v3 (.node y178v4 (.node y306v4 (.node o562 .nil .nil) .nil) (.node y434v5 (.node y690v6 .nil .nil) .nil)) (.node y242v4 (.node y370v4 (.node y626v6 .nil .nil) .nil) (.node y498v5 (.node y754v6 .nil .nil) .nil))))) (.node y26v0 (.node y42v2 (.node y74v2 (.node (o138 P) (.node y266v4 (.node y522v5 .nil .nil) .nil) (.node y394v5 (.node y650v6 .nil .nil) .nil)) (.node y202v4 (.node y330v4 (.node y586v5 .nil .nil) .nil) (.node y458v5 (.node y714v6 .nil .nil) .nil))) (.node y106v3 (.node y170v4 (.node y298v4 (.node y554v5 .nil .nil) .nil) (.node y426v5 (.node o682 .nil .nil) .nil)) (.node y234v4 (.node y362v4 (.node y618v5 .nil .nil) .nil) (.node y490v5 (.node y746v6 .nil .nil) .nil)))) (.node y58v2 (.node y90v2 (.node y154v4 (.node y282v4 (.node y538v5 .nil .nil) .nil) (.node y410v5 (.node y666v6 .nil .nil) .nil)) (.node y218v4 (.node y346v4 (.node y602v5 .nil .nil) .nil) (.node y474v5 (.node y730v6 .nil .nil) .nil))) (.node y122v3 (.node y186v4 (.node y314v4 (.node y570v5 .nil .nil) .nil) (.node y442v5 (.node y698v6 .nil .nil) .nil)) (.node y250v4 (.node y378v5 (.node y634v6 .nil .nil) .nil) (.node y506v5 .nil .nil)))))) (.node y14v0 (.node y22v0 (.node y38v2 (.node y70v2 (.node y134v3 (.node y262v4 (.node y518v5 .nil .nil) .nil) (.node y390v5 (.node y646v6 .nil .nil) .nil)) (.node y198v4 (.node y326v4 (.node y582v5 .nil .nil) .nil) (.node y454v5 (.node y710v6 .nil .nil) .nil))) (.node y102v3 (.node y166v4 (.node y294v4 (.node y550v5 .nil .nil) .nil) (.node y422v5 (.node y678v6 .nil .nil) .nil)) (.node y230v4 (.node y358v4 (.node y614v5 .nil .nil) .nil) (.node y486v5 (.node y742v6 .nil .nil) .nil)))) (.node y54v2 (.node y86v2 (.node y150v4 (.node y278v4 (.node y534v5 .nil .nil) .nil) (.node y406v5 (.node y662v6 .nil .nil) .nil)) (.node y214v4 (.node y342v4 (.node y598v5 .nil .nil) .nil) (.node y470v5 (.node y726v6 .nil .nil) .nil))) (.node y118v3 (.node y182v4 (.node y310v4 (.node y566v5 .nil .nil) .nil) (.node y438v5 (.node y694v6 .nil .nil) .nil)) (.node y246v4 (.node (y374v5 P) (.node y630v6 .nil .nil) .nil) (.node y502v5 .nil .nil))))) (.node y30v0 (.node (y46v2 P) (.node y78v2 (.node y142v4 (.node y270v4 (.node y526v5 .nil .nil) .nil) (.node y398v5 (.node y654v6 .nil .nil) .nil)) (.node y206v4 (.node y334v4 (.node y590v5 .nil .nil) .nil) (.node y462v5 (.node o718 .nil .nil) .nil))) (.node y110v3 (.node y174v4 (.node y302v4 (.node y558v5 .nil .nil) .nil) (.node y430v5 (.node y686v6 .nil .nil) .nil)) (.node y238v4 (.node y366v4 (.node y622v6 .nil .nil) .nil) (.node y494v5 (.node (o750 P) .nil .nil) .nil)))) (.node o62 (.node y94v2 (.node y158v4 (.node y286v4 (.node y542v5 .nil .nil) .nil) (.node y414v5 (.node y670v6 .nil .nil) .nil)) (.node y222v4 (.node y350v4 (.node y606v5 .nil .nil) .nil) (.node y478v5 (.node y734v6 .nil .nil) .nil))) (.node (y126v3 P) (.node y190v4 (.node y318v4 (.node y574v5 .nil .nil) .nil) (.node y446v5 (.node y702v6 .nil .nil) .nil)) (.node y254v4 (.node y382v5 (.node y638v6 .nil .nil) .nil) (.node y510v5 .nil .nil)))))))))
noncomputable def y3v7 (P : Params) : Obj := ⟨.type "dict", none, .dict #[en P (Str.ofString "__name__") 165 (.str (Str.ofString "law_oc0310_01") 1395), en P (Str.ofString "__doc__") 166 (.none), en P (Str.ofString "__package__") 167 (.none), en P (Str.ofString "__loader__") 168 (.builtin "__main__.__loader__#opaque"), en P (Str.ofString "__spec__") 169 (.none), en P (Str.ofString "__annotations__") 170 (.ref 6), en P (Str.ofString "__builtins__") 171 (.ref 4), en P (Str.ofString "__file__") 173 (.str (Str.ofString "/claim/cut.py") 172), en P (Str.ofString "__cached__") 174 (.none), en P (Str.ofString "_sre") 275 (.ref 12), en P (Str.ofString "deque") 317 (.type "collections.deque"), en P (Str.ofString "_wall") 330 (.ref 44), en P (Str.ofString "IPV4_RE") 362 (.ref 49), en P (Str.ofString "liberal_is_HDN") 369 (.ref 56), en P (Str.ofString "user_domain_match") 378 (.ref 63), en P (Str.ofString "_twin_re_1") 418 (.ref 68), en P (Str.ofString "_whence") 428 (.ref 75), en P (Str.ofString "_index") 436 (.ref 82), en P (Str.ofString "UnsupportedOperation") 458 (.ref 92), en P (Str.ofString "IOBase") 490 (.ref 112), en P (Str.ofString "BufferedIOBase") 508 (.ref 127), en P (Str.ofString "TextIOBase") 526 (.ref 139), en P (Str.ofString "BytesIO") 788 (.ref 369), en P (Str.ofString "StringIO") 1075 (.ref 616), en P (Str.ofString "_kind") 1086 (.ref 625), en P (Str.ofString "_fspath") 1095 (.ref 632), en P (Str.ofString "_check_arg_types") 1105 (.ref 639), en P (Str.ofString "isabs") 1112 (.ref 646), en P (Str.ofString "join") 1123 (.ref 770), en P (Str.ofString "join_path") 1124 (.ref 653), en P (Str.ofString "dirname") 1134 (.ref 660), en P (Str.ofString "shlex") 1275 (.ref 751), en P (Str.ofString "split") 1285 (.ref 763), en P (Str.ofString "join_shlex") 1293 (.ref 770), en P (Str.ofString "_find_unsafe") 1295 (.ref 771), en P (Str.ofString "quote") 1302 (.ref 778), en P (Str.ofString "S_IMODE") 1311 (.ref 785), en P (Str.ofString "S_IFMT") 1318 (.ref 792), en P (Str.ofString "S_IFDIR") 1320 (.int (16384) 1319), en P (Str.ofString "S_IFCHR") 1322 (.int (8192) 1321), en P (Str.ofString "S_IFBLK") 1324 (.int (24576) 1323), en P (Str.ofString "S_IFREG") 1326 (.int (32768) 1325), en P (Str.ofString "S_IFIFO") 1328 (.int (4096) 1327), en P (Str.ofString "S_IFLNK") 1330 (.int (40960) 1329), en P (Str.ofString "S_IFSOCK") 1332 (.int (49152) 1331), en P (Str.ofString "S_ISUID") 1334 (.int (2048) 1333), en P (Str.ofString "S_ISGID") 1336 (.int (1024) 1335), en P (Str.ofString "S_ISVTX") 1338 (.int (512) 1337), en P (Str.ofString "S_IRUSR") 1340 (.int (256) 1339), en P (Str.ofString "S_IWUSR") 1342 (.int (128) 1341), en P (Str.ofString "S_IXUSR") 1344 (.int (64) 1343), en P (Str.ofString "S_IRGRP") 1346 (.int (32) 1345), en P (Str.ofString "S_IWGRP") 1348 (.int (16) 1347), en P (Str.ofString "S_IXGRP") 1350 (.int (8) 1349), en P (Str.ofString "S_IROTH") 1352 (.int (4) 1351), en P (Str.ofString "S_IWOTH") 1354 (.int (2) 1353), en P (Str.ofString "S_IXOTH") 1356 (.int (1) 1355), en P (Str.ofString "_filemode_table") 1382 (.ref 825), en P (Str.ofString "filemode") 1394 (.ref 832), en P (Str.ofString "_law_zones") 1402 (.ref 839), en P (Str.ofString "_law_hosts") 1408 (.ref 846), en P (Str.ofString "_law_words") 1423 (.ref 853), en P (Str.ofString "_law_read") 1434 (.ref 860), en P (Str.ofString "_law_led") 1447 (.ref 867), en P (Str.ofString "_law_short") 1453 (.ref 872), en P (Str.ofString "_law_holds") 1459 (.ref 877), en P (Str.ofString "_law_listing") 1465 (.ref 882), en P (Str.ofString "law") 1471 (.ref 887)] 68, #[]⟩
noncomputable def y35v7 : Obj := ⟨.none, none, .fields #[.int (3) 0, .int (0) 0, .ref 43, .int (8) 0, .int (0) 0, .ref 55, .int (12) 0, .int (0) 0, .ref 62, .int (27) 0, .int (0) 0, .ref 74, .int (32) 0, .int (0) 0, .ref 81, .int (39) 0, .int (0) 0, .ref 88, .int (41) 0, .int (0) 0, .ref 101, .int (48) 0, .int (0) 0, .ref 123, .int (50) 0, .int (0) 0, .ref 135, .int (52) 0, .int (0) 0, .ref 147, .int (222) 0, .int (0) 0, .ref 377, .int (428) 0, .int (0) 0, .ref 624, .int (449) 0, .int (0) 0, .ref 631, .int (454) 0, .int (0) 0, .ref 638, .int (459) 0, .int (0) 0, .ref 645, .int (462) 0, .int (0) 0, .ref 652, .int (483) 0, .int (0) 0, .ref 659, .int (492) 0, .int (0) 0, .ref 666, .int (744) 0, .int (0) 0, .ref 762, .int (752) 0, .int (0) 0, .ref 769, .int (756) 0, .int (0) 0, .ref 777, .int (763) 0, .int (0) 0, .ref 784, .int (765) 0, .int (0) 0, .ref 791, .int (787) 0, .int (0) 0, .ref 831, .int (805) 0, .int (0) 0, .ref 838, .int (807) 0, .int (0) 0, .ref 845, .int (809) 0, .int (0) 0, .ref 852, .int (818) 0, .int (0) 0, .ref 859, .int (826) 0, .int (0) 0, .ref 866, .int (835) 0, .int (0) 0, .ref 871, .int (845) 0, .int (0) 0, .ref 876, .int (852) 0, .int (0) 0, .ref 881, .int (870) 0, .int (0) 0, .ref 886], #[]⟩
noncomputable def y757v7 : Obj := ⟨.type "tuple", none, .seq #[] 0, #[]⟩
noncomputable def y758v7 : Obj := ⟨.none, none, .fields #[], #[]⟩
noncomputable def y759v7 : Obj := ⟨.type "tuple", none, .seq #[.str (Str.ofString "s") 1279, .str (Str.ofString "comments") 1280, .str (Str.ofString "posix") 1281, .str (Str.ofString "lex") 1282] 0, #[]⟩
noncomputable def y760v7 : Obj := ⟨.type "tuple", none, .seq #[] 0, #[]⟩
noncomputable def y761v7 : Obj := fnR (stAt 27) (Str.ofString "split")
noncomputable def y764v7 : Obj := ⟨.type "tuple", none, .seq #[] 0, #[]⟩
noncomputable def y766v7 : Obj := ⟨.type "tuple", none, .seq #[.str (Str.ofString "split_command") 1289] 0, #[]⟩
noncomputable def y767v7 : Obj := ⟨.type "tuple", none, .seq #[] 0, #[]⟩
noncomputable def y768v7 : Obj := fnR (stAt 28) (Str.ofString "join")
noncomputable def y772v7 : Obj := ⟨.type "tuple", none, .seq #[] 0, #[]⟩
noncomputable def y773v7 : Obj := ⟨.none, none, .fields #[], #[]⟩
noncomputable def y774v7 : Obj := ⟨.type "tuple", none, .seq #[.str (Str.ofString "s") 1299] 0, #[]⟩
noncomputable def y775v7 : Obj := ⟨.type "tuple", none, .seq #[] 0, #[]⟩
noncomputable def y776v7 : Obj := fnR (stAt 31) (Str.ofString "quote")
noncomputable def y779v7 : Obj := ⟨.type "tuple", none, .seq #[] 0, #[]⟩
noncomputable def y780v7 : Obj := ⟨.none, none, .fields #[], #[]⟩
noncomputable def y781v7 : Obj := ⟨.type "tuple", none, .seq #[.str (Str.ofString "mode") 1308] 0, #[]⟩
noncomputable def y782v7 : Obj := ⟨.type "tuple", none, .seq #[] 0, #[]⟩
noncomputable def y783v7 : Obj := fnR (stAt 33) (Str.ofString "S_IMODE")
noncomputable def y786v7 : Obj := ⟨.type "tuple", none, .seq #[] 0, #[]⟩
noncomputable def y787v7 : Obj := ⟨.none, none, .fields #[], #[]⟩
noncomputable def y788v7 : Obj := ⟨.type "tuple", none, .seq #[.str (Str.ofString "mode") 1315] 0, #[]⟩
noncomputable def y789v7 : Obj := ⟨.type "tuple", none, .seq #[] 0, #[]⟩
noncomputable def y790v7 : Obj := fnR (stAt 34) (Str.ofString "S_IFMT")
noncomputable def y826v7 : Obj := ⟨.type "tuple", none, .seq #[] 0, #[]⟩
noncomputable def y827v7 : Obj := ⟨.none, none, .fields #[], #[]⟩
noncomputable def y828v7 : Obj := ⟨.type "tuple", none, .seq #[.str (Str.ofString "mode") 1386, .str (Str.ofString "perm") 1387, .str (Str.ofString "index") 1388, .str (Str.ofString "table") 1389, .str (Str.ofString "bit") 1390, .str (Str.ofString "char") 1391] 0, #[]⟩
noncomputable def y829v7 : Obj := ⟨.type "tuple", none, .seq #[] 0, #[]⟩
noncomputable def y830v7 : Obj := fnR (stAt 55) (Str.ofString "filemode")
noncomputable def y833v7 : Obj := ⟨.type "tuple", none, .seq #[] 0, #[]⟩
noncomputable def y834v7 : Obj := ⟨.none, none, .fields #[], #[]⟩
noncomputable def y835v7 : Obj := ⟨.type "tuple", none, .seq #[] 0, #[]⟩
noncomputable def y836v7 : Obj := ⟨.type "tuple", none, .seq #[] 0, #[]⟩
noncomputable def y837v7 : Obj := fnR (stAt 57) (Str.ofString "_law_zones")
noncomputable def y840v7 : Obj := ⟨.type "tuple", none, .seq #[] 0, #[]⟩
noncomputable def y841v7 : Obj := ⟨.none, none, .fields #[], #[]⟩
noncomputable def y842v7 : Obj := ⟨.type "tuple", none, .seq #[] 0, #[]⟩
noncomputable def y843v7 : Obj := ⟨.type "tuple", none, .seq #[] 0, #[]⟩
noncomputable def y844v7 : Obj := fnR (stAt 58) (Str.ofString "_law_hosts")
noncomputable def y847v7 : Obj := ⟨.type "tuple", none, .seq #[] 0, #[]⟩
noncomputable def y848v7 : Obj := ⟨.none, none, .fields #[], #[]⟩
noncomputable def y849v7 : Obj := ⟨.type "tuple", none, .seq #[.str (Str.ofString "rules") 1412, .str (Str.ofString "zones") 1413, .str (Str.ofString "words") 1414, .str (Str.ofString "plus") 1415, .str (Str.ofString "place") 1416, .str (Str.ofString "mask") 1417, .str (Str.ofString "dotted") 1418, .str (Str.ofString "labels") 1419, .str (Str.ofString "figures") 1420] 0, #[]⟩
noncomputable def y850v7 : Obj := ⟨.type "tuple", none, .seq #[] 0, #[]⟩
noncomputable def y851v7 : Obj := fnR (stAt 59) (Str.ofString "_law_words")
noncomputable def y854v7 : Obj := ⟨.type "tuple", none, .seq #[] 0, #[]⟩
noncomputable def y855v7 : Obj := ⟨.none, none, .fields #[], #[]⟩
noncomputable def y856v7 : Obj := ⟨.type "tuple", none, .seq #[.str (Str.ofString "words") 1427, .str (Str.ofString "rules") 1428, .str (Str.ofString "k") 1429, .str (Str.ofString "mask") 1430, .str (Str.ofString "figure") 1431] 0, #[]⟩
noncomputable def y857v7 : Obj := ⟨.type "tuple", none, .seq #[] 0, #[]⟩
noncomputable def y858v7 : Obj := fnR (stAt 60) (Str.ofString "_law_read")
noncomputable def y861v7 : Obj := ⟨.type "tuple", none, .seq #[] 0, #[]⟩
noncomputable def y862v7 : Obj := ⟨.none, none, .fields #[], #[]⟩
noncomputable def y863v7 : Obj := ⟨.type "tuple", none, .seq #[.str (Str.ofString "start") 1438, .str (Str.ofString "host") 1439, .str (Str.ofString "words") 1440, .str (Str.ofString "held") 1441, .str (Str.ofString "plus") 1442, .str (Str.ofString "mask") 1443, .str (Str.ofString "zone") 1444] 0, #[]⟩
noncomputable def y864v7 : Obj := ⟨.type "tuple", none, .seq #[] 0, #[]⟩
noncomputable def y865v7 : Obj := fnR (stAt 61) (Str.ofString "_law_led")
noncomputable def y868v7 : Obj := ⟨.type "tuple", none, .seq #[] 0, #[]⟩
noncomputable def y869v7 : Obj := ⟨.none, none, .fields #[], #[]⟩
noncomputable def y870v7 : Obj := fnR (stAt 62) (Str.ofString "_law_short")
noncomputable def y873v7 : Obj := ⟨.type "tuple", none, .seq #[] 0, #[]⟩
noncomputable def y874v7 : Obj := ⟨.none, none, .fields #[], #[]⟩
noncomputable def y875v7 : Obj := fnR (stAt 63) (Str.ofString "_law_holds")
noncomputable def y878v7 : Obj := ⟨.type "tuple", none, .seq #[] 0, #[]⟩
noncomputable def y879v7 : Obj := ⟨.none, none, .fields #[], #[]⟩
noncomputable def y880v7 : Obj := fnR (stAt 64) (Str.ofString "_law_listing")
noncomputable def y883v7 : Obj := ⟨.type "tuple", none, .seq #[] 0, #[]⟩
noncomputable def y884v7 : Obj := ⟨.none, none, .fields #[], #[]⟩
noncomputable def y885v7 : Obj := fnR (stAt 65) (Str.ofString "law")
noncomputable def hdT7 (P : Params) : BT := (.node (y0v0 P) (.node (y1v0 P) (.node (y3v7 P) (.node y7v0 (.node y15v0 (.node y31v0 (.node o63 (.node y127v4 (.node y255v4 (.node y511v5 .nil .nil) (.node y767v7 .nil .nil)) (.node y383v5 (.node y639v6 .nil .nil) .nil)) (.node y191v4 (.node y319v4 (.node y575v5 .nil .nil) (.node o831 .nil .nil)) (.node y447v5 (.node y703v6 .nil .nil) .nil))) (.node y95v2 (.node y159v4 (.node y287v4 (.node y543v5 .nil .nil) (.node o799 .nil .nil)) (.node y415v5 (.node y671v6 .nil .nil) .nil)) (.node y223v4 (.node y351v4 (.node y607v5 .nil .nil) (.node y863v7 .nil .nil)) (.node y479v5 (.node y735v6 .nil .nil) .nil)))) (.node y47v2 (.node y79v2 (.node y143v4 (.node y271v4 (.node y527v5 .nil .nil) (.node y783v7 .nil .nil)) (.node o399 (.node y655v6 .nil .nil) .nil)) (.node y207v4 (.node y335v4 (.node y591v5 .nil .nil) (.node y847v7 .nil .nil)) (.node y463v5 (.node o719 .nil .nil) .nil))) (.node (o111 P) (.node y175v4 (.node y303v4 (.node y559v5 .nil .nil) (.node o815 .nil .nil)) (.node y431v5 (.node y687v6 .nil .nil) .nil)) (.node y239v4 (.node y367v4 (.node y623v6 .nil .nil) (.node y879v7 .nil .nil)) (.node y495v5 (.node o751 .nil .nil) .nil))))) (.node y23v0 (.node y39v2 (.node y71v2 (.node y135v3 (.node y263v4 (.node y519v5 .nil .nil) (.node y775v7 .nil .nil)) (.node y391v5 (.node y647v6 .nil .nil) .nil)) (.node y199v4 (.node y327v4 (.node y583v5 .nil .nil) (.node o839 .nil .nil)) (.node y455v5 (.node o711 .nil .nil) .nil))) (.node y103v3 (.node y167v4 (.node y295v4 (.node y551v5 .nil .nil) (.node o807 .nil .nil)) (.node y423v5 (.node y679v6 .nil .nil) .nil)) (.node y231v4 (.node y359v4 (.node (o615 P) .nil .nil) (.node o871 .nil .nil)) (.node y487v5 (.node y743v6 .nil .nil) .nil)))) (.node o55 (.node y87v2 (.node y151v4 (.node y279v4 (.node y535v5 .nil .nil) (.node o791 .nil .nil)) (.node y407v5 (.node (y663v6 P) .nil .nil) .nil)) (.node y215v4 (.node y343v4 (.node y599v5 .nil .nil) (.node y855v7 .nil .nil)) (.node y471v5 (.node y727v6 .nil .nil) .nil))) (.node y119v3 (.node y183v4 (.node y311v4 (.node y567v5 .nil .nil) (.node o823 .nil .nil)) (.node y439v5 (.node y695v6 .nil .nil) .nil)) (.node y247v4 (.node y375v5 (.node y631v6 .nil .nil) (.node o887 .nil .nil)) (.node y503v5 (.node y759v7 .nil .nil) .nil)))))) (.node (y11v0 P) (.node y19v0 (.node y35v7 (.node o67 (.node y131v3 (.node y259v4 (.node y515v5 .nil .nil) (.node o771 .nil .nil)) (.node y387v5 (.node y643v6 .nil .nil) .nil)) (.node y195v4 (.node y323v4 (.node y579v5 .nil .nil) (.node y835v7 .nil .nil)) (.node y451v5 (.node y707v6 .nil .nil) .nil))) (.node y99v3 (.node y163v4 (.node y291v4 (.node y547v5 .nil .nil) (.node o803 .nil .nil)) (.node y419v5 (.node o675 .nil .nil) .nil)) (.node y227v4 (.node y355v4 (.node y611v5 .nil .nil) (.node o867 .nil .nil)) (.node y483v5 (.node y739v6 .nil .nil) .nil)))) (.node y51v2 (.node y83v2 (.node y147v4 (.node y275v4 (.node y531v5 .nil .nil) (.node y787v7 .nil .nil)) (.node y403v5 (.node y659v6 .nil .nil) .nil)) (.node y211v4 (.node y339v4 (.node y595v5 .nil .nil) (.node y851v7 .nil .nil)) (.node y467v5 (.node y723v6 .nil .nil) .nil))) (.node y115v3 (.node y179v4 (.node y307v4 (.node y563v5 .nil .nil) (.node o819 .nil .nil)) (.node y435v5 (.node y691v6 .nil .nil) .nil)) (.node y243v4 (.node y371v4 (.node y627v6 .nil .nil) (.node y883v7 .nil .nil)) (.node y499v5 (.node y755v6 .nil .nil) .nil))))) (.node y27v0 (.node y43v2 (.node y75v2 (.node o139 (.node y267v4 (.node y523v5 .nil .nil) (.node y779v7 .nil .nil)) (.node y395v5 (.node y651v6 .nil .nil) .nil)) (.node y203v4 (.node y331v4 (.node y587v5 .nil .nil) (.node y843v7 .nil .nil)) (.node y459v5 (.node y715v6 .nil .nil) .nil))) (.node y107v3 (.node y171v4 (.node y299v4 (.node o555 .nil .nil) (.node o811 .nil .nil)) (.node y427v5 (.node o683 .nil .nil) .nil)) (.node y235v4 (.node y363v4 (.node y619v6 .nil .nil) (.node y875v7 .nil .nil)) (.node y491v5 (.node o747 .nil .nil) .nil)))) (.node y59v2 (.node (y91v2 P) (.node y155v4 (.node y283v4 (.node y539v5 .nil .nil) (.node o795 .nil .nil)) (.node y411v5 (.node y667v6 .nil .nil) .nil)) (.node y219v4 (.node y347v4 (.node y603v5 .nil .nil) (.node o859 .nil .nil)) (.node y475v5 (.node y731v6 .nil .nil) .nil))) (.node y123v3 (.node y187v4 (.node y315v4 (.node y571v5 .nil .nil) (.node y827v7 .nil .nil)) (.node y443v5 (.node y699v6 .nil .nil) .nil)) (.node y251v4 (.node o379 (.node y635v6 .nil .nil) .nil) (.node y507v5 (.node o763 .nil .nil) .nil))))))) (.node y5v0 (.node y9v0 (.node y17v0 (.node y33v0 (.node (y65v2 P) (.node y129v3 (.node y257v4 (.node y513v5 .nil .nil) (.node o769 .nil .nil)) (.node o385 (.node y641v6 .nil .nil) .nil)) (.node y193v4 (.node y321v4 (.node y577v5 .nil .nil) (.node y833v7 .nil .nil)) (.node y449v5 (.node y705v6 .nil .nil) .nil))) (.node y97v3 (.node y161v4 (.node y289v4 (.node y545v5 .nil .nil) (.node o801 .nil .nil)) (.node y417v5 (.node y673v6 .nil .nil) .nil)) (.node y225v4 (.node y353v4 (.node y609v5 .nil .nil) (.node y865v7 .nil .nil)) (.node y481v5 (.node y737v6 .nil .nil) .nil)))) (.node o49 (.node o81 (.node y145v4 (.node y273v4 (.node y529v5 .nil .nil) (.node o785 .nil .nil)) (.node y401v5 (.node y657v6 .nil .nil) .nil)) (.node y209v4 (.node y337v4 (.node y593v5 .nil .nil) (.node y849v7 .nil .nil)) (.node y465v5 (.node y721v6 .nil .nil) .nil))) (.node o113 (.node y177v4 (.node y305v4 (.node o561 .nil .nil) (.node o817 .nil .nil)) (.node y433v5 (.node y689v6 .nil .nil) .nil)) (.node y241v4 (.node o369 (.node y625v6 .nil .nil) (.node o881 .nil .nil)) (.node y497v5 (.node y753v6 .nil .nil) .nil))))) (.node y25v0 (.node y41v2 (.node y73v2 (.node y137v3 (.node y265v4 (.node y521v5 .nil .nil) (.node o777 .nil .nil)) (.node o393 (.node y649v6 .nil .nil) .nil)) (.node y201v4 (.node y329v4 (.node y585v5 .nil .nil) (.node y841v7 .nil .nil)) (.node y457v5 (.node y713v6 .nil .nil) .nil))) (.node y105v3 (.node y169v4 (.node y297v4 (.node y553v5 .nil .nil) (.node o809 .nil .nil)) (.node y425v5 (.node o681 .nil .nil) .nil)) (.node y233v4 (.node y361v4 (.node y617v5 .nil .nil) (.node y873v7 .nil .nil)) (.node y489v5 (.node y745v6 .nil .nil) .nil)))) (.node y57v2 (.node y89v2 (.node y153v4 (.node y281v4 (.node y537v5 .nil .nil) (.node o793 .nil .nil)) (.node y409v5 (.node y665v6 .nil .nil) .nil)) (.node y217v4 (.node y345v4 (.node y601v5 .nil .nil) (.node y857v7 .nil .nil)) (.node y473v5 (.node y729v6 .nil .nil) .nil))) (.node y121v3 (.node y185v4 (.node y313v4 (.node y569v5 .nil .nil) (.node o825 .nil .nil)) (.node y441v5 (.node y697v6 .nil .nil) .nil)) (.node y249v4 (.node y377v5 (.node y633v6 .nil .nil) .nil) (.node y505v5 (.node y761v7 .nil .nil) .nil)))))) (.node (y13v0 P) (.node (y21v0 P) (.node y37v1 (.node y69v2 (.node y133v3 (.node y261v4 (.node y517v5 .nil .nil) (.node y773v7 .nil .nil)) (.node y389v5 (.node y645v6 .nil .nil) .nil)) (.node y197v4 (.node y325v4 (.node y581v5 .nil .nil) (.node y837v7 .nil .nil)) (.node y453v5 (.node y709v6 .nil .nil) .nil))) (.node y101v3 (.node y165v4 (.node y293v4 (.node y549v5 .nil .nil) (.node o805 .nil .nil)) (.node y421v5 (.node y677v6 .nil .nil) .nil)) (.node y229v4 (.node y357v4 (.node y613v5 .nil .nil) (.node y869v7 .nil .nil)) (.node y485v5 (.node o741 .nil .nil) .nil)))) (.node y53v2 (.node (y85v2 P) (.node y149v4 (.node y277v4 (.node y533v5 .nil .nil) (.node y789v7 .nil .nil)) (.node y405v5 (.node y661v6 .nil .nil) .nil)) (.node y213v4 (.node y341v4 (.node y597v5 .nil .nil) (.node o853 .nil .nil)) (.node y469v5 (.node y725v6 .nil .nil) .nil))) (.node y117v3 (.node y181v4 (.node y309v4 (.node y565v5 .nil .nil) (.node o821 .nil .nil)) (.node y437v5 (.node y693v6 .nil .nil) .nil)) (.node y245v4 (.node y373v5 (.node y629v6 .nil .nil) (.node y885v7 .nil .nil)) (.node y501v5 (.node y757v7 .nil .nil) .nil))))) (.node (y29v0 P) (.node y45v2 (.node y77v2 (.node y141v3 (.node y269v4 (.node y525v5 .nil .nil) (.node y781v7 .nil .nil)) (.node y397v5 (.node y653v6 .nil .nil) .nil)) (.node y205v4 (.node y333v4 (.node y589v5 .nil .nil) (.node o845 .nil .nil)) (.node y461v5 (.node y717v6 .nil .nil) .nil))) (.node o109 (.node y173v4 (.node y301v4 (.node y557v5 .nil .nil) (.node o813 .nil .nil)) (.node y429v5 (.node y685v6 .nil .nil) .nil)) (.node y237v4 (.node y365v4 (.node y621v6 .nil .nil) (.node o877 .nil .nil)) (.node y493v5 (.node y749v6 .nil .nil) .nil)))) (.node y61v2 (.node y93v2 (.node y157v4 (.node y285v4 (.node y541v5 .nil .nil) (.node o797 .nil .nil)) (.node y413v5 (.node y669v6 .nil .nil) .nil)) (.node y221v4 (.node y349v4 (.node y605v5 .nil .nil) (.node y861v7 .nil .nil)) (.node y477v5 (.node y733v6 .nil .nil) .nil))) (.node y125v3 (.node y189v4 (.node y317v4 (.node y573v5 .nil .nil) (.node y829v7 .nil .nil)) (.node y445v5 (.node y701v6 .nil .nil) .nil)) (.node y253v4 (.node y381v5 (.node y637v6 .nil .nil) .nil) (.node y509v5 (.node o765 .nil .nil) .nil)))))))) (.node (y2v2 P) (.node y4v0 (.node y8v0 (.node y16v0 (.node (y32v0 P) (.node y64v2 (.node y128v3 (.node y256v4 (.node y512v5 .nil .nil) (.node y768v7 .nil .nil)) (.node y384v5 (.node y640v6 .nil .nil) .nil)) (.node y192v4 (.node y320v4 (.node y576v5 .nil .nil) (.node o832 .nil .nil)) (.node y448v5 (.node y704v6 .nil .nil) .nil))) (.node y96v3 (.node y160v4 (.node y288v4 (.node y544v5 .nil .nil) (.node o800 .nil .nil)) (.node y416v5 (.node y672v6 .nil .nil) .nil)) (.node y224v4 (.node y352v4 (.node y608v5 .nil .nil) (.node y864v7 .nil .nil)) (.node y480v5 (.node y736v6 .nil .nil) .nil)))) (.node o48 (.node y80v2 (.node (y144v4 P) (.node y272v4 (.node y528v5 .nil .nil) (.node o784 .nil .nil)) (.node o400 (.node y656v6 .nil .nil) .nil)) (.node y208v4 (.node y336v4 (.node y592v5 .nil .nil) (.node y848v7 .nil .nil)) (.node y464v5 (.node y720v6 .nil .nil) .nil))) (.node o112 (.node y176v4 (.node y304v4 (.node y560v5 .nil .nil) (.node o816 .nil .nil)) (.node y432v5 (.node y688v6 .nil .nil) .nil)) (.node y240v4 (.node (y368v4 P) (.node y624v6 .nil .nil) (.node y880v7 .nil .nil)) (.node y496v5 (.node y752v6 .nil .nil) .nil))))) (.node y24v0 (.node y40v2 (.node y72v2 (.node y136v3 (.node y264v4 (.node y520v5 .nil .nil) (.node y776v7 .nil .nil)) (.node o392 (.node y648v6 .nil .nil) .nil)) (.node y200v4 (.node y328v4 (.node y584v5 .nil .nil) (.node y840v7 .nil .nil)) (.node y456v5 (.node o712 .nil .nil) .nil))) (.node y104v3 (.node y168v4 (.node y296v4 (.node y552v5 .nil .nil) (.node o808 .nil .nil)) (.node y424v5 (.node y680v6 .nil .nil) .nil)) (.node y232v4 (.node y360v4 (.node o616 .nil .nil) (.node o872 .nil .nil)) (.node y488v5 (.node y744v6 .nil .nil) .nil)))) (.node o56 (.node y88v2 (.node y152v4 (.node y280v4 (.node y536v5 .nil .nil) (.node o792 .nil .nil)) (.node y408v5 (.node y664v6 .nil .nil) .nil)) (.node y216v4 (.node y344v4 (.node y600v5 .nil .nil) (.node y856v7 .nil .nil)) (.node y472v5 (.node y728v6 .nil .nil) .nil))) (.node (y120v3 P) (.node y184v4 (.node y312v4 (.node y568v5 .nil .nil) (.node o824 .nil .nil)) (.node y440v5 (.node y696v6 .nil .nil) .nil)) (.node y248v4 (.node y376v5 (.node y632v6 .nil .nil) .nil) (.node y504v5 (.node y760v7 .nil .nil) .nil)))))) (.node y12v0 (.node (y20v0 P) (.node y36v1 (.node o68 (.node (y132v3 P) (.node y260v4 (.node y516v5 .nil .nil) (.node y772v7 .nil .nil)) (.node y388v5 (.node y644v6 .nil .nil) .nil)) (.node y196v4 (.node y324v4 (.node y580v5 .nil .nil) (.node y836v7 .nil .nil)) (.node y452v5 (.node y708v6 .nil .nil) .nil))) (.node y100v3 (.node y164v4 (.node y292v4 (.node y548v5 .nil .nil) (.node o804 .nil .nil)) (.node y420v5 (.node y676v6 .nil .nil) .nil)) (.node y228v4 (.node y356v4 (.node y612v5 .nil .nil) (.node y868v7 .nil .nil)) (.node y484v5 (.node o740 .nil .nil) .nil)))) (.node y52v2 (.node y84v2 (.node y148v4 (.node y276v4 (.node y532v5 .nil .nil) (.node y788v7 .nil .nil)) (.node y404v5 (.node y660v6 .nil .nil) .nil)) (.node y212v4 (.node y340v4 (.node y596v5 .nil .nil) (.node o852 .nil .nil)) (.node y468v5 (.node y724v6 .nil .nil) .nil))) (.node y116v3 (.node y180v4 (.node y308v4 (.node y564v5 .nil .nil) (.node o820 .nil .nil)) (.node y436v5 (.node y692v6 .nil .nil) .nil)) (.node y244v4 (.node y372v5 (.node y628v6 .nil .nil) (.node y884v7 .nil .nil)) (.node y500v5 (.node o756 .nil .nil) .nil))))) (.node y28v0 (.node y44v2 (.node y76v2 (.node y140v3 (.node y268v4 (.node y524v5 .nil .nil) (.node y780v7 .nil .nil)) (.node y396v5 (.node y652v6 .nil .nil) .nil)) (.node y204v4 (.node y332v4 (.node y588v5 .nil .nil) (.node y844v7 .nil .nil)) (.node y460v5 (.node y716v6 .nil .nil) .nil))) (.node o108 (.node y172v4 (.node y300v4 (.node y556v5 .nil .nil) (.node o812 .nil .nil)) (.node y428v5 (.node y684v6 .nil .nil) .nil)) (.node y236v4 (.node y364v4 (.node y620v6 .nil .nil) (.node o876 .nil .nil)) (.node y492v5 (.node o748 .nil .nil) .nil)))) (.node y60v2 (.node y92v2 (.node y156v4 (.node y284v4 (.node y540v5 .nil .nil) (.node o796 .nil .nil)) (.node y412v5 (.node o668 .nil .nil) .nil)) (.node y220v4 (.node y348v4 (.node y604v5 .nil .nil) (.node o860 .nil .nil)) (.node y476v5 (.node y732v6 .nil .nil) .nil))) (.node y124v3 (.node y188v4 (.node y316v4 (.node y572v5 .nil .nil) (.node y828v7 .nil .nil)) (.node y444v5 (.node y700v6 .nil .nil) .nil)) (.node y252v4 (.node y380v5 (.node y636v6 .nil .nil) .nil) (.node y508v5 (.node y764v7 .nil .nil) .nil))))))) (.node (y6v0 P) (.node y10v0 (.node y18v0 (.node y34v1 (.node y66v2 (.node y130v3 (.node y258v4 (.node y514v5 .nil .nil) (.node o770 .nil .nil)) (.node o386 (.node y642v6 .nil .nil) .nil)) (.node y194v4 (.node y322v4 (.node y578v5 .nil .nil) (.node y834v7 .nil .nil)) (.node y450v5 (.node y706v6 .nil .nil) .nil))) (.node (y98v3 P) (.node y162v4 (.node y290v4 (.node y546v5 .nil .nil) (.node o802 .nil .nil)) (.node y418v5 (.node o674 .nil .nil) .nil)) (.node y226v4 (.node y354v4 (.node y610v5 .nil .nil) (.node o866 .nil .nil)) (.node y482v5 (.node y738v6 .nil .nil) .nil)))) (.node y50v2 (.node o82 (.node y146v4 (.node y274v4 (.node y530v5 .nil .nil) (.node y786v7 .nil .nil)) (.node y402v5 (.node y658v6 .nil .nil) .nil)) (.node y210v4 (.node y338v4 (.node y594v5 .nil .nil) (.node y850v7 .nil .nil)) (.node y466v5 (.node y722v6 .nil .nil) .nil))) (.node y114v3 (.node y178v4 (.node y306v4 (.node o562 .nil .nil) (.node o818 .nil .nil)) (.node y434v5 (.node y690v6 .nil .nil) .nil)) (.node y242v4 (.node y370v4 (.node y626v6 .nil .nil) (.node o882 .nil .nil)) (.node y498v5 (.node y754v6 .nil .nil) .nil))))) (.node y26v0 (.node y42v2 (.node y74v2 (.node (o138 P) (.node y266v4 (.node y522v5 .nil .nil) (.node o778 .nil .nil)) (.node y394v5 (.node y650v6 .nil .nil) .nil)) (.node y202v4 (.node y330v4 (.node y586v5 .nil .nil) (.node y842v7 .nil .nil)) (.node y458v5 (.node y714v6 .nil .nil) .nil))) (.node y106v3 (.node y170v4 (.node y298v4 (.node y554v5 .nil .nil) (.node o810 .nil .nil)) (.node y426v5 (.node o682 .nil .nil) .nil)) (.node y234v4 (.node y362v4 (.node y618v5 .nil .nil) (.node y874v7 .nil .nil)) (.node y490v5 (.node y746v6 .nil .nil) .nil)))) (.node y58v2 (.node y90v2 (.node y154v4 (.node y282v4 (.node y538v5 .nil .nil) (.node o794 .nil .nil)) (.node y410v5 (.node y666v6 .nil .nil) .nil)) (.node y218v4 (.node y346v4 (.node y602v5 .nil .nil) (.node y858v7 .nil .nil)) (.node y474v5 (.node y730v6 .nil .nil) .nil))) (.node y122v3 (.node y186v4 (.node y314v4 (.node y570v5 .nil .nil) (.node y826v7 .nil .nil)) (.node y442v5 (.node y698v6 .nil .nil) .nil)) (.node y250v4 (.node y378v5 (.node y634v6 .nil .nil) .nil) (.node y506v5 (.node o762 .nil .nil) .nil)))))) (.node y14v0 (.node y22v0 (.node y38v2 (.node y70v2 (.node y134v3 (.node y262v4 (.node y518v5 .nil .nil) (.node y774v7 .nil .nil)) (.node y390v5 (.node y646v6 .nil .nil) .nil)) (.node y198v4 (.node y326v4 (.node y582v5 .nil .nil) (.node o838 .nil .nil)) (.node y454v5 (.node y710v6 .nil .nil) .nil))) (.node y102v3 (.node y166v4 (.node y294v4 (.node y550v5 .nil .nil) (.node o806 .nil .nil)) (.node y422v5 (.node y678v6 .nil .nil) .nil)) (.node y230v4 (.node y358v4 (.node y614v5 .nil .nil) (.node y870v7 .nil .nil)) (.node y486v5 (.node y742v6 .nil .nil) .nil)))) (.node y54v2 (.node y86v2 (.node y150v4 (.node y278v4 (.node y534v5 .nil .nil) (.node y790v7 .nil .nil)) (.node y406v5 (.node y662v6 .nil .nil) .nil)) (.node y214v4 (.node y342v4 (.node y598v5 .nil .nil) (.node y854v7 .nil .nil)) (.node y470v5 (.node y726v6 .nil .nil) .nil))) (.node y118v3 (.node y182v4 (.node y310v4 (.node y566v5 .nil .nil) (.node o822 .nil .nil)) (.node y438v5 (.node y694v6 .nil .nil) .nil)) (.node y246v4 (.node (y374v5 P) (.node y630v6 .nil .nil) (.node o886 .nil .nil)) (.node y502v5 (.node y758v7 .nil .nil) .nil))))) (.node y30v0 (.node (y46v2 P) (.node y78v2 (.node y142v4 (.node y270v4 (.node y526v5 .nil .nil) (.node y782v7 .nil .nil)) (.node y398v5 (.node y654v6 .nil .nil) .nil)) (.node y206v4 (.node y334v4 (.node y590v5 .nil .nil) (.node o846 .nil .nil)) (.node y462v5 (.node o718 .nil .nil) .nil))) (.node y110v3 (.node y174v4 (.node y302v4 (.node y558v5 .nil .nil) (.node o814 .nil .nil)) (.node y430v5 (.node y686v6 .nil .nil) .nil)) (.node y238v4 (.node y366v4 (.node y622v6 .nil .nil) (.node y878v7 .nil .nil)) (.node y494v5 (.node (o750 P) .nil .nil) .nil)))) (.node o62 (.node y94v2 (.node y158v4 (.node y286v4 (.node y542v5 .nil .nil) (.node o798 .nil .nil)) (.node y414v5 (.node y670v6 .nil .nil) .nil)) (.node y222v4 (.node y350v4 (.node y606v5 .nil .nil) (.node y862v7 .nil .nil)) (.node y478v5 (.node y734v6 .nil .nil) .nil))) (.node (y126v3 P) (.node y190v4 (.node y318v4 (.node y574v5 .nil .nil) (.node y830v7 .nil .nil)) (.node y446v5 (.node y702v6 .nil .nil) .nil)) (.node y254v4 (.node y382v5 (.node y638v6 .nil .nil) .nil) (.node y510v5 (.node y766v7 .nil .nil) .nil)))))))))
noncomputable def hdSt0 (P : Params) (os : OsState) : SharedT := ⟨hdT0 P, 34, {}, #[], {}, 318, os⟩
noncomputable def hdSt1 (P : Params) (os : OsState) : SharedT := ⟨hdT1 P, 38, {}, #[], {}, 324, os⟩
noncomputable def hdSt2 (P : Params) (os : OsState) : SharedT := ⟨hdT2 P, 96, {}, #[], {}, 459, os⟩
noncomputable def hdSt3 (P : Params) (os : OsState) : SharedT := ⟨hdT3 P, 142, {}, #[], {}, 527, os⟩
noncomputable def hdSt4 (P : Params) (os : OsState) : SharedT := ⟨hdT4 P, 372, {}, #[], {}, 789, os⟩
noncomputable def hdSt5 (P : Params) (os : OsState) : SharedT := ⟨hdT5 P, 619, {}, #[], {}, 1076, os⟩
noncomputable def hdSt6 (P : Params) (os : OsState) : SharedT := ⟨hdT6 P, 756, {}, #[], {}, 1276, os⟩
noncomputable def hdSt7 (P : Params) (os : OsState) : SharedT := ⟨hdT7 P, 888, {}, #[], {}, 1472, os⟩
end
end
-- MRun
section
noncomputable section
noncomputable def hdB : List Stmt := behindTheImports P0
noncomputable def hdE : Env := { scope := P0.main.scope, locals := mainNs, globals := mainNs, cells := [], code := .ref 36, frame := some 37 }
noncomputable def hdC : Code := .body hdB hdE
noncomputable def hdSl (i n : Nat) : List Stmt := (hdB.drop i).take n
noncomputable abbrev hdAnn : Option Value := some (.ref 6)
noncomputable abbrev hdPos : Pos := ⟨0, 0, 0, 0⟩
noncomputable abbrev hdF : List Frame := [topFrame hdPos]
theorem pre_ok (w : World) : (fun os => topGo treeTable P0 w 34 hdAnn 12 (hdSt0 w.params os).abs (topStub P0)) = fun os => some ((hdSt1 w.params os).abs, ⟨denote treeTable hdC, hdC, hdPos, hdF⟩) := by kernel_rfl
theorem block_ok (w : World) : (fun os => segRun treeTable P0 w 34 hdAnn 1 1 (hdSt1 w.params os).abs (blockOf hdB hdE hdC hdPos hdF)) = fun os => some (.next, (hdSt1 w.params os).abs, hdC, hdPos) := by kernel_rfl
theorem ch1 (w : World) : (fun os => segRunT treeTable P0 w 34 hdAnn 1 532 (hdSt1 w.params os) (piecesOf (hdSl 0 10) hdE hdC hdPos hdF)) = fun os => some (.next, hdSt2 w.params os, hdC, ⟨39, 0, 40, 21⟩) := by
  unfold piecesOf
  rw [PySem.W.Fast.te10110043849684766642, PySem.W.Fast.te12563942051412417395, PySem.W.Fast.te14364793385576792824]
  kernel_rfl
theorem ch2 (w : World) : (fun os => segRunT treeTable P0 w 34 hdAnn 1 686 (hdSt2 w.params os) (piecesOf (hdSl 10 3) hdE hdC ⟨39, 0, 40, 21⟩ hdF)) = fun os => some (.next, hdSt3 w.params os, hdC, ⟨50, 0, 51, 21⟩) := by
  unfold piecesOf
  rw [PySem.W.Fast.te10110043849684766642, PySem.W.Fast.te12563942051412417395, PySem.W.Fast.te14364793385576792824]
  kernel_rfl
theorem ch3 (w : World) : (fun os => segRunT treeTable P0 w 34 hdAnn 1 1278 (hdSt3 w.params os) (piecesOf (hdSl 13 1) hdE hdC ⟨50, 0, 51, 21⟩ hdF)) = fun os => some (.next, hdSt4 w.params os, hdC, ⟨52, 0, 221, 17⟩) := by
  unfold piecesOf
  rw [PySem.W.Fast.te10110043849684766642, PySem.W.Fast.te12563942051412417395, PySem.W.Fast.te14364793385576792824]
  kernel_rfl
theorem ch4 (w : World) : (fun os => segRunT treeTable P0 w 34 hdAnn 1 1578 (hdSt4 w.params os) (piecesOf (hdSl 14 1) hdE hdC ⟨52, 0, 221, 17⟩ hdF)) = fun os => some (.next, hdSt5 w.params os, hdC, ⟨222, 0, 426, 17⟩) := by
  unfold piecesOf
  rw [PySem.W.Fast.te10110043849684766642, PySem.W.Fast.te12563942051412417395, PySem.W.Fast.te14364793385576792824]
  kernel_rfl
theorem ch5 (w : World) : (fun os => segRunT treeTable P0 w 34 hdAnn 1 849 (hdSt5 w.params os) (piecesOf (hdSl 15 10) hdE hdC ⟨222, 0, 426, 17⟩ hdF)) = fun os => some (.next, hdSt6 w.params os, hdC, ⟨492, 0, 743, 20⟩) := by
  unfold piecesOf
  rw [PySem.W.Fast.te10110043849684766642, PySem.W.Fast.te12563942051412417395, PySem.W.Fast.te14364793385576792824]
  kernel_rfl
theorem ch6 (w : World) : (fun os => segRunT treeTable P0 w 34 hdAnn 1 836 (hdSt6 w.params os) (piecesOf (hdSl 25 39) hdE hdC ⟨492, 0, 743, 20⟩ hdF)) = fun os => some (.next, hdSt7 w.params os, hdC, ⟨870, 0, 884, 15⟩) := by
  unfold piecesOf
  rw [PySem.W.Fast.te10110043849684766642, PySem.W.Fast.te12563942051412417395, PySem.W.Fast.te14364793385576792824]
  kernel_rfl
theorem fin_ok (w : World) : (fun os => topRun treeTable P0 w 34 hdAnn 2 (hdSt7 w.params os).abs ⟨doneF .next, hdC, ⟨870, 0, 884, 15⟩, hdF⟩) = fun os => some (hdSt7 w.params os).abs := by kernel_rfl
theorem hdB_eq : hdB = hdSl 0 10 ++ (hdSl 10 3 ++ (hdSl 13 1 ++ (hdSl 14 1 ++ (hdSl 15 10 ++ (hdSl 25 39 ++ []))))) := by kernel_rfl
end
end
-- MLk
section
noncomputable section
noncomputable def q : Program := view P0 [65]
noncomputable def hdH0 (P : Params) : Heap := absHeap (hdT0 P) 34 {}
noncomputable def hdH1 (P : Params) : Heap := absHeap (hdT7 P) 888 {}
noncomputable def hdS1 (P : Params) (os : OsState) : Shared := ⟨hdH1 P, #[], {}, 1472, os⟩
noncomputable def adr : List Addr := [765, 48, 49, 55, 56, 62, 63, 67, 68, 81, 82, 108, 109, 111, 112, 113, 138, 139, 369, 379, 385, 386, 392, 393, 399, 400, 555, 561, 562, 615, 616, 668, 674, 675, 681, 682, 683, 711, 712, 718, 719, 740, 741, 747, 748, 750, 751, 756, 762, 763, 769, 770, 771, 777, 778, 784, 785, 791, 792, 793, 794, 795, 796, 797, 798, 799, 800, 801, 802, 803, 804, 805, 806, 807, 808, 809, 810, 811, 812, 813, 814, 815, 816, 817, 818, 819, 820, 821, 822, 823, 824, 825, 831, 832, 838, 839, 845, 846, 852, 853, 859, 860, 866, 867, 871, 872, 876, 877, 881, 882, 886, 887]
theorem openI (w : World) : (impT (opening P0) w 12000 ⟨.nil, 0, {}, #[], {}, (start (opening P0)).1.toks, (start (opening P0)).1.os⟩ (qStart (opening P0)).2).bind (fun a => (qFence P0 a.abs).map fun s => (s.heap, s.gens, s.drawn, s.toks)) = some (hdH0 w.params, #[], {}, 318) := by kernel_rfl
theorem size0 (w : World) : ((hdH0 w.params).isNs mainGlobals && (#[] : Array GenState).size == 0, (hdH0 w.params).objs.size, (hdH0 w.params).nsMap mainGlobals "__annotations__") = (true, 34, hdAnn) := by
  rw [PySem.W.Fast.te8920871248978507458]
  kernel_rfl
theorem lk1 (P : Params) : staticsOk (importedModules P0.main.body) (hdH0 P) (hdH1 P) = true := by kernel_rfl
theorem lk2 (P : Params) : namesBound P0 (hdH1 P) = true := by kernel_rfl
theorem lk3 (P : Params) : laidKept (hdH0 P) (hdH1 P) = true := by kernel_rfl
theorem lk4 (P : Params) : (fun os => openSeen q loose (importedModules P0.main.body) (fun _ => true) true (hdS1 P os)) = fun _ => openGood q loose := by
  rw [PySem.W.Fast.te4187177175401517315]
  kernel_rfl
theorem lk5 (P : Params) : adr.map (hdH1 P).get? = some o765 :: (K P).map (fun p => some p.2) := by kernel_rfl
theorem lk6 (P : Params) : (gtab.map (·.1)).map ((hdH1 P).nsMap mainGlobals) = gtab.map (·.2) := by
  rw [PySem.W.Fast.te8920871248978507458]
  kernel_rfl
theorem lk7 (P : Params) : ((hdH1 P).nsMap cStatics "thirdparty.any", (hdH1 P).isNs cStatics, (hdH1 P).objs.size) = (none, true, 888) := by
  rw [PySem.W.Fast.te8920871248978507458]
  kernel_rfl
end
end
-- MLeft
section
noncomputable section
theorem run0 (w : World) (os : OsState) : topRun treeTable P0 w 34 hdAnn (12 + (1 + (532 + (686 + (1278 + (1578 + (849 + (836 + 2)))))))) (hdSt0 w.params os).abs (topStub P0) = some (hdSt7 w.params os).abs := by
  refine go_top (congrFun (pre_ok w) os) ?_
  refine piece_block (env := hdE) (q := hdPos) (congrFun (block_ok w) os) ?_
  rw [show restOf hdB hdE hdC hdPos hdF = restOf (hdSl 0 10 ++ (hdSl 10 3 ++ (hdSl 13 1 ++ (hdSl 14 1 ++ (hdSl 15 10 ++ (hdSl 25 39 ++ [])))))) hdE hdC hdPos hdF from congrArg (fun x => restOf x hdE hdC hdPos hdF) hdB_eq]
  refine piece_app (segRun_of (congrFun (ch1 w) os)) ?_
  refine piece_app (segRun_of (congrFun (ch2 w) os)) ?_
  refine piece_app (segRun_of (congrFun (ch3 w) os)) ?_
  refine piece_app (segRun_of (congrFun (ch4 w) os)) ?_
  refine piece_app (segRun_of (congrFun (ch5 w) os)) ?_
  refine piece_app (segRun_of (congrFun (ch6 w) os)) ?_
  exact piece_nil (congrFun (fin_ok w) os)
noncomputable def yf (s : Shared) : List (Option Obj) × Nat × Nat × List (Option Value) × Option Value × Bool := (adr.map s.heap.get?, s.heap.objs.size, s.toks, (gtab.map (·.1)).map (s.heap.nsMap mainGlobals), s.heap.nsMap cStatics "thirdparty.any", s.heap.isNs cStatics)
noncomputable def ya (w : World) : List (Option Obj) × Nat × Nat × List (Option Value) × Option Value × Bool := (some o765 :: (K w.params).map (fun p => some p.2), 888, 1472, gtab.map (·.2), none, true)
theorem open0 (w : World) : (fencedOpening treeTable P0 w 12000).map (fun s => (s.heap, s.gens, s.drawn, s.toks)) = some (hdH0 w.params, #[], {}, 318) := by
  have h := openI w
  rw [q_start, q_fence] at h
  obtain ⟨a, ha, h⟩ := Option.bind_eq_some_iff.mp h
  have hi := impT_of ha
  have hdE : (⟨.nil, 0, {}, #[], {}, (start (opening P0)).1.toks, (start (opening P0)).1.os⟩ : SharedT).abs = (start (opening P0)).1 := rfl
  rw [hdE] at hi
  unfold fencedOpening
  rw [hi]
  exact h
theorem left : LeftO P0 q loose (fun _ => true) yf ya 12000 := by
  refine LeftO.of_pieces (H₀ := hdH0) (H₁ := hdH1) (gs₀ := #[]) (gs₁ := #[]) (d₀ := {}) (d₁ := {}) (k₀ := 318) (k₁ := 1472) (m₀ := 34) (ann := hdAnn) open0 size0 run0 (by decide) fun w => funext fun os => ?_
  have h7 := lk7 w.params
  simp only [Prod.mk.injEq] at h7
  refine Prod.ext ?_ (Prod.ext ?_ ?_)
  · show (staticsOk _ (hdH0 w.params) (hdH1 w.params) && namesBound P0 (hdH1 w.params) && true && laidKept (hdH0 w.params) (hdH1 w.params)) = true
    rw [lk1, lk2, lk3]
    rfl
  · exact congrFun (lk4 w.params) os
  · show ((_, _, _, _, _, _) : List (Option Obj) × Nat × Nat × List (Option Value) × Option Value × Bool) = (_, _, _, _, _, _)
    rw [lk5, lk6, h7.1, h7.2.1, h7.2.2]
end
end
-- MW
section
set_option autoImplicit false
noncomputable abbrev Led := List (Addr × Obj)
noncomputable abbrev Loc := List (Option Value)
/-- a def's static data -/
structure Fn where
  fd : FuncData
  fa : Addr
  ns : List Str
  gns : List Str
structure Cx where
  w : World
  A : Around
  E : Value → Shared → Prop
  h₀ : Heap
  env : Env
  fn : Fn
  mg : Str → Option Value
  mb : Str → Option Value
  os : OsState
  hid : Led
  gp : Array GenState → Drawn → Prop
noncomputable abbrev Cx.loc (C : Cx) : Addr := C.env.locals
noncomputable def look2 : List Str → Loc → Str → Option Value
  | x :: ns, v :: vs, y => if y = x then v else look2 ns vs y
  | _, _, _ => none
inductive At : List Str → Loc → Str → Value → Prop
  | here {x ns v vs} : At (x :: ns) (some v :: vs) x v
  | there {y ns u vs x v} : At ns vs x v → At (y :: ns) (u :: vs) x v
theorem At.mem {ns vs x v} (h : At ns vs x v) : x ∈ ns := by
  induction h with
  | here => exact .head _
  | there _ ih => exact .tail _ ih
theorem At.look {ns vs x v} (h : At ns vs x v) (nd : ns.Nodup) : look2 ns vs x = some v := by
  induction h with
  | here => simp [look2]
  | @there y ns u vs x v h ih =>
    rw [List.nodup_cons] at nd
    have hne : ¬ (x = y) := fun e => nd.1 (e ▸ h.mem)
    rw [look2, if_neg hne]
    exact ih nd.2
inductive SetAt : List Str → Loc → Str → Value → Loc → Prop
  | here {x ns u vs v} : SetAt (x :: ns) (u :: vs) x v (some v :: vs)
  | there {y ns u vs x v vs'} : SetAt ns vs x v vs' → SetAt (y :: ns) (u :: vs) x v (u :: vs')
theorem SetAt.mem {ns vs x v vs'} (h : SetAt ns vs x v vs') : x ∈ ns := by
  induction h with
  | here => exact .head _
  | there _ ih => exact .tail _ ih
theorem SetAt.look {ns vs x v vs'} (h : SetAt ns vs x v vs') (nd : ns.Nodup) : look2 ns vs' = fun y => if y = x then some v else look2 ns vs y := by
  induction h with
  | @here x ns u vs v =>
    funext y
    by_cases e : y = x
    · simp [look2, e]
    · simp [look2, e]
  | @there z ns u vs x v vs' h ih =>
    rw [List.nodup_cons] at nd
    have hne : ¬ (x = z) := fun e => nd.1 (e ▸ h.mem)
    funext y
    rw [look2, ih nd.2, look2]
    by_cases e : y = z
    · rw [if_pos e, if_pos e, if_neg (fun e2 => hne (e2.symm.trans e))]
    · rw [if_neg e, if_neg e]
structure Sta (C : Cx) (L : Loc) (n : Led) (s : Shared) : Prop where
  fr : Fr C.h₀ C.loc s.heap (look2 C.fn.ns L)
  nw : News C.h₀ C.loc s.heap (n ++ C.hid)
  nd : ((n ++ C.hid).map (·.1)).Nodup
  gb : C.gp s.gens s.drawn
  os : s.os = C.os
theorem Sta.toks {C L n s} (h : Sta C L n s) (tk : Nat) : Sta C L n { s with toks := tk } := ⟨h.fr, h.nw, h.nd, h.gb, h.os⟩
noncomputable def W {α : Type} (C : Cx) (t : Sem α) (L : Loc) (n : Led) (Q : α → Loc → Led → Prop) : Prop :=
  ∀ s, Sta C L n s → wpAny (model P0 C.w) C.A t (fun v s' => ∃ L' n', Sta C L' n' s' ∧ Q v L' n') C.E s
structure Ok (C : Cx) : Prop where
  k : (K C.w.params).In C.h₀
  g : C.h₀.Ns mainGlobals C.mg
  b : C.h₀.Ns builtinsNs C.mb
  gt : ∀ p ∈ gtab, C.mg p.1 = p.2
  bt : ∀ x : Str, x ≠ "__name__" → C.mb x = bootBuiltins x
  lim : C.h₀.NoLimit
  dig : ∃ mc, C.h₀.Ns cStatics mc ∧ mc "sys.int_max_str_digits" = none ∧ mc "thirdparty.any" = none
  bm : ∃ bm ob, BMod C.h₀ mainGlobals C.mg bm ob
  hh : C.A.handled = none
  gl : C.env.globals = mainGlobals
  bl : C.env.builtins = builtinsNs
  kind : C.env.scope.kind = .function
  locs : ∀ x ∈ C.fn.ns, C.env.kindOf x = some .local ∧ (x == ("__debug__" : Str)) = false
  gls : ∀ x ∈ C.fn.gns, C.env.kindOf x = some .globalImplicit ∧ (x == ("__debug__" : Str)) = false
  nd : C.fn.ns.Nodup
section
variable {α β : Type} {C : Cx} {L : Loc} {n : Led}
theorem W.pure {a : α} {Q : α → Loc → Led → Prop} (h : Q a L n) : W C (Pure.pure a) L n Q := fun _ hs => wpAny_pure ⟨L, n, hs, h⟩
theorem W.bind {t : Sem α} {f : α → Sem β} {Q : β → Loc → Led → Prop} (h : W C t L n fun a L' n' => W C (f a) L' n' Q) : W C (t >>= f) L n Q := fun s hs =>
  wpAny_bind (wpAny_mono (h s hs) (fun _ s' ⟨_, _, h', k⟩ => k s' h') fun _ _ x => x)
theorem W.mono {t : Sem α} {Q Q' : α → Loc → Led → Prop} (h : W C t L n Q) (k : ∀ a L' n', Q a L' n' → Q' a L' n') : W C t L n Q' := fun s hs =>
  wpAny_mono (h s hs) (fun _ _ ⟨L', n', h', q⟩ => ⟨L', n', h', k _ _ _ q⟩) fun _ _ x => x
-- how a rule with one, two, three sub-trees is lifted
theorem lift1 {t : Sem α} {R : α → Shared → Prop} {Q : α → Loc → Led → Prop} {s : Shared} (h : W C t L n Q) (hs : Sta C L n s) (k : ∀ v s' L' n', Sta C L' n' s' → Q v L' n' → R v s') : wpAny (model P0 C.w) C.A t R C.E s :=
  wpAny_mono (h s hs) (fun v s' ⟨L', n', h', q⟩ => k v s' L' n' h' q) fun _ _ x => x
section
variable {Q : Value → Loc → Led → Prop} {QF : Flow → Loc → Led → Prop} {QB : Bool → Loc → Led → Prop}
theorem W.cint {i k pos env} (h : ∀ t, Q (.int i t) L n) : W C (eval (.Constant (.int i) k pos) env) L n Q := fun _ hs => wpAny_Constant_int ⟨L, n, hs.toks _, h _⟩
theorem W.cstr {x k pos env} (h : ∀ t, Q (.str x t) L n) : W C (eval (.Constant (.str x) k pos) env) L n Q := fun _ hs => wpAny_Constant_str ⟨L, n, hs.toks _, h _⟩
theorem W.cbool {b k pos env} (h : Q (.bool b) L n) : W C (eval (.Constant (.bool b) k pos) env) L n Q := fun _ hs => wpAny_Constant_bool ⟨L, n, hs, h⟩
theorem W.cnone {k pos env} (h : Q .none L n) : W C (eval (.Constant .none k pos) env) L n Q := fun _ hs => wpAny_Constant_none ⟨L, n, hs, h⟩
theorem W.name {x pos v} (ok : Ok C) (ha : At C.fn.ns L x v) (h : Q v L n) : W C (eval (.Name x pos) C.env) L n Q := fun _ hs =>
  wpAny_Name (wpAny_loadName_local ok.kind (ok.locs x ha.mem).1 hs.fr.ns (ha.look ok.nd) ⟨L, n, hs, h⟩) (ok.locs x ha.mem).2
theorem W.glob {x pos v} (ok : Ok C) (hx : x ∈ C.fn.gns) (hv : C.mg x = some v) (h : Q v L n) : W C (eval (.Name x pos) C.env) L n Q := fun s hs =>
  Name_function_global ok.kind (ok.gls x hx).1 (loadGlobal_global (env := C.env) (by show s.heap.Ns C.env.globals C.mg; rw [ok.gl]; exact ok.g.keeps hs.fr.keep) hv ⟨L, n, hs, h⟩) (ok.gls x hx).2
theorem W.blt {x pos v} (ok : Ok C) (hx : x ∈ C.fn.gns) (hm : C.mg x = none) (hb : C.mb x = some v) (h : Q v L n) : W C (eval (.Name x pos) C.env) L n Q := fun s hs =>
  Name_function_global ok.kind (ok.gls x hx).1 (loadGlobal_builtin (env := C.env) (by show s.heap.Ns C.env.globals C.mg; rw [ok.gl]; exact ok.g.keeps hs.fr.keep) hm
    (by show s.heap.Ns C.env.builtins C.mb; rw [ok.bl]; exact ok.b.keeps hs.fr.keep) hb ⟨L, n, hs, h⟩) (ok.gls x hx).2
theorem W.binop {l op r pos env} (h : W C (eval l env) L n fun a L₁ n₁ => W C (eval r env) L₁ n₁ fun b L₂ n₂ => W C (binaryOp op a b) L₂ n₂ Q) : W C (eval (.BinOp l op r pos) env) L n Q := fun _ hs =>
  wpAny_BinOp (lift1 h hs fun _ _ _ _ h₁ k₁ => lift1 k₁ h₁ fun _ _ _ _ h₂ k₂ => k₂ _ h₂)
theorem W.cmp {l op r pos env} (h : W C (eval l env) L n fun a L₁ n₁ => W C (eval r env) L₁ n₁ fun b L₂ n₂ => W C (compareOp op a b) L₂ n₂ Q) (hm : behindInMarks op r = false := by with_unfolding_all rfl) : W C (eval (.Compare l [op] [r] pos) env) L n Q := fun _ hs =>
  wpAny_Compare1 (lift1 h hs fun _ _ _ _ h₁ k₁ => lift1 k₁ h₁ fun _ _ _ _ h₂ k₂ => k₂ _ h₂) hm
theorem W.unop {op x pos env} (h : W C (eval x env) L n fun a L₁ n₁ => W C (unaryOp op a) L₁ n₁ Q) : W C (eval (.UnaryOp op x pos) env) L n Q := fun _ hs =>
  wpAny_UnaryOp (lift1 h hs fun _ _ _ _ h₁ k₁ => k₁ _ h₁)
theorem W.ifexp {t b o pos env} (h : W C (isTrue t env (eval t env)) L n fun c L₁ n₁ => if c then W C (eval b env) L₁ n₁ Q else W C (eval o env) L₁ n₁ Q) : W C (eval (.IfExp t b o pos) env) L n Q := fun _ hs =>
  wpAny_IfExp (lift1 h hs fun c _ _ _ h₁ k₁ => by cases c <;> exact k₁ _ h₁)
theorem W.add {a b ta tb} (h : ∀ t, Q (.int (a + b) t) L n) : W C (binaryOp .Add (.int a ta) (.int b tb)) L n Q := fun _ hs => P.add_int ⟨L, n, hs.toks _, h _⟩
theorem W.sub {a b ta tb} (h : ∀ t, Q (.int (a - b) t) L n) : W C (binaryOp .Sub (.int a ta) (.int b tb)) L n Q := fun _ hs => P.sub_int ⟨L, n, hs.toks _, h _⟩
theorem W.mul {a b ta tb} (hm : IntMulOk a b) (h : ∀ t, Q (.int (a * b) t) L n) : W C (binaryOp .Mult (.int a ta) (.int b tb)) L n Q := fun _ hs => P.mul_int ⟨L, n, hs.toks _, h _⟩ hm
theorem W.mod {a b ta tb} (hb : b ≠ 0) (h : ∀ t, Q (.int (a.fmod b) t) L n) : W C (binaryOp .Mod (.int a ta) (.int b tb)) L n Q := fun _ hs => mod_int' hb ⟨L, n, hs.toks _, h _⟩
theorem W.band {a b ta tb} (h : ∀ t, Q (.int (Builtin.bitAnd a b) t) L n) : W C (binaryOp .BitAnd (.int a ta) (.int b tb)) L n Q := fun _ hs => and_int ⟨L, n, hs.toks _, h _⟩
theorem W.bor {a b ta tb} (h : ∀ t, Q (.int (Builtin.bitOr a b) t) L n) : W C (binaryOp .BitOr (.int a ta) (.int b tb)) L n Q := fun _ hs => or_int ⟨L, n, hs.toks _, h _⟩
theorem W.pow {a b ta tb} (hn : 0 ≤ b) (hsz : (Builtin.Int.intBits a : Int) * b ≤ 2 ^ 27) (h : ∀ t, Q (.int (a ^ b.toNat) t) L n) : W C (binaryOp .Pow (.int a ta) (.int b tb)) L n Q := fun _ hs => pow_int hn hsz ⟨L, n, hs.toks _, h _⟩
theorem W.neg {a ta} (h : ∀ t, Q (.int (-a) t) L n) : W C (unaryOp .USub (.int a ta)) L n Q := fun _ hs => P.neg_int ⟨L, n, hs.toks _, h _⟩
theorem W.eqi {a b ta tb} (h : Q (.bool (a == b)) L n) : W C (compareOp .Eq (.int a ta) (.int b tb)) L n Q := fun _ hs => P.eq_int ⟨L, n, hs, h⟩
theorem W.nei {a b ta tb} (h : Q (.bool (a != b)) L n) : W C (compareOp .NotEq (.int a ta) (.int b tb)) L n Q := fun _ hs => P.ne_int ⟨L, n, hs, h⟩
theorem W.lti {a b ta tb} (h : Q (.bool (decide (a < b))) L n) : W C (compareOp .Lt (.int a ta) (.int b tb)) L n Q := fun _ hs => P.lt_int ⟨L, n, hs, h⟩
theorem W.gti {a b ta tb} (h : Q (.bool (decide (a > b))) L n) : W C (compareOp .Gt (.int a ta) (.int b tb)) L n Q := fun _ hs => P.gt_int ⟨L, n, hs, h⟩
theorem W.gei {a b ta tb} (h : Q (.bool (decide (a ≥ b))) L n) : W C (compareOp .GtE (.int a ta) (.int b tb)) L n Q := fun _ hs => P.ge_int ⟨L, n, hs, h⟩
theorem W.eqs {x y : Str} {tx ty} (h : Q (.bool (x.cps.toList == y.cps.toList)) L n) : W C (compareOp .Eq (.str x tx) (.str y ty)) L n Q := fun _ hs => P.eq_str ⟨L, n, hs, h⟩
theorem W.nes {x y : Str} {tx ty} (h : Q (.bool (x.cps.toList != y.cps.toList)) L n) : W C (compareOp .NotEq (.str x tx) (.str y ty)) L n Q := fun _ hs => P.ne_str ⟨L, n, hs, h⟩
theorem W.ins {x y : Str} {tx ty} (h : Q (.bool !(Builtin.Str.occurrences x y 0 x.length 1).isEmpty) L n) : W C (compareOp .In (.str y ty) (.str x tx)) L n Q := fun _ hs => P.in_str ⟨L, n, hs, h⟩
theorem W.notins {x y : Str} {tx ty} (h : Q (.bool (!(!(Builtin.Str.occurrences x y 0 x.length 1).isEmpty))) L n) : W C (compareOp .NotIn (.str y ty) (.str x tx)) L n Q := fun _ hs => P.notIn_str ⟨L, n, hs, h⟩
theorem W.isnone {v} (h : Q (.bool (v == .none)) L n) : W C (compareOp .Is v .none) L n Q := fun _ hs => is_none ⟨L, n, hs, h⟩
theorem W.isnotnone {v} (h : Q (.bool (!(v == .none))) L n) : W C (compareOp .IsNot v .none) L n Q := fun _ hs => isNot_none ⟨L, n, hs, h⟩
-- truth
theorem W.tval {e env whole} (h : W C whole L n fun v L₁ n₁ => W C (truthy v) L₁ n₁ QB) (he : isTrue e env whole = (do let v ← whole; standAt e.pos; holding [v] (truthy v)) := by with_unfolding_all rfl) : W C (isTrue e env whole) L n QB := fun _ hs =>
  wpAny_isTrue_value (lift1 h hs fun _ _ _ _ h₁ k₁ => k₁ _ h₁) he
theorem W.tcmp {l op r pos env whole} (h : W C (eval l env) L n fun a L₁ n₁ => W C (eval r env) L₁ n₁ fun b L₂ n₂ => W C (compareOp op a b) L₂ n₂ fun c L₃ n₃ => W C (truthy c) L₃ n₃ QB) (hm : behindInMarks op r = false := by with_unfolding_all rfl) :
    W C (isTrue (.Compare l [op] [r] pos) env whole) L n QB := fun _ hs =>
  wpAny_isTrue_Compare1 (lift1 h hs fun _ _ _ _ h₁ k₁ => lift1 k₁ h₁ fun _ _ _ _ h₂ k₂ => lift1 k₂ h₂ fun _ _ _ _ h₃ k₃ => k₃ _ h₃) hm
theorem W.tnot {x pos env whole} (h : W C (isTrue x env (eval x env)) L n fun b L₁ n₁ => QB (!b) L₁ n₁) : W C (isTrue (.UnaryOp .Not x pos) env whole) L n QB := fun _ hs =>
  wpAny_isTrue_Not (lift1 h hs fun _ _ _ _ h₁ k₁ => ⟨_, _, h₁, k₁⟩)
theorem W.tboolop {op vs pos env whole} (h : W C (allTrue op vs env) L n QB) : W C (isTrue (.BoolOp op vs pos) env whole) L n QB := fun _ hs => wpAny_isTrue_BoolOp (h _ hs)
theorem W.tand {x rest env} (h : W C (isTrue x env (eval x env)) L n fun b L₁ n₁ => if b then W C (allTrue .And rest env) L₁ n₁ QB else QB false L₁ n₁) : W C (allTrue .And (x :: rest) env) L n QB := fun _ hs =>
  wpAny_allTrue_And_cons (lift1 h hs fun b _ _ _ h₁ k₁ => by cases b; exact ⟨_, _, h₁, k₁⟩; exact k₁ _ h₁)
theorem W.tor {x rest env} (h : W C (isTrue x env (eval x env)) L n fun b L₁ n₁ => if b then QB true L₁ n₁ else W C (allTrue .Or rest env) L₁ n₁ QB) : W C (allTrue .Or (x :: rest) env) L n QB := fun _ hs =>
  wpAny_allTrue_Or_cons (lift1 h hs fun b _ _ _ h₁ k₁ => by cases b; exact k₁ _ h₁; exact ⟨_, _, h₁, k₁⟩)
theorem W.tandn {env} (h : QB true L n) : W C (allTrue .And [] env) L n QB := fun _ hs => wpAny_allTrue_And_nil ⟨_, _, hs, h⟩
theorem W.torn {env} (h : QB false L n) : W C (allTrue .Or [] env) L n QB := fun _ hs => wpAny_allTrue_Or_nil ⟨_, _, hs, h⟩
theorem W.trb {b} (h : QB b L n) : W C (truthy (.bool b)) L n QB := fun _ hs => wpAny_truthy_bool ⟨_, _, hs, h⟩
theorem W.tri {a t} (h : QB (a != 0) L n) : W C (truthy (.int a t)) L n QB := fun _ hs => P.truthy_int ⟨_, _, hs, h⟩
-- statements
theorem W.nil {env} (h : QF .next L n) : W C (execs [] env) L n QF := fun _ hs => wpAny_execs_nil ⟨_, _, hs, h⟩
noncomputable def Seq (C : Cx) (env : Env) (rest : List Stmt) (QF : Flow → Loc → Led → Prop) : Flow → Loc → Led → Prop
  | .next, L, n => W C (execs rest env) L n QF
  | .brk, L, n => QF .brk L n
  | .cont, L, n => QF .cont L n
  | .ret v, L, n => QF (.ret v) L n
theorem W.cons {st rest env} (h : W C (exec st env) L n (Seq C env rest QF)) : W C (execs (st :: rest) env) L n QF := fun _ hs =>
  wpAny_execs_cons (lift1 h hs fun f _ _ _ h₁ k₁ => by cases f <;> first | exact k₁ _ h₁ | exact ⟨_, _, h₁, k₁⟩)
theorem seqn {rest env} (h : W C (execs rest env) L n QF) : Seq C env rest QF .next L n := h
theorem seqr {rest env v} (h : QF (.ret v) L n) : Seq C env rest QF (.ret v) L n := h
theorem seqb {rest env} (h : QF .brk L n) : Seq C env rest QF .brk L n := h
theorem seqc {rest env} (h : QF .cont L n) : Seq C env rest QF .cont L n := h
theorem iteT {c : Bool} {A B : Prop} (h : c = true) (a : A) : if c then A else B := by rw [h]; exact a
theorem iteF {c : Bool} {A B : Prop} (h : c = false) (b : B) : if c then A else B := by rw [h]; exact b
theorem W.nm {ns : List Str} {x pos v} (ok : Ok C) (hn : C.fn.ns = ns) (ha : At ns L x v) (h : Q v L n) : W C (eval (.Name x pos) C.env) L n Q := W.name ok (hn ▸ ha) h
theorem W.gl {gns : List Str} {x pos v} (ok : Ok C) (hn : C.fn.gns = gns) (hx : x ∈ gns) (hv : C.mg x = some v) (h : Q v L n) : W C (eval (.Name x pos) C.env) L n Q := W.glob ok (hn ▸ hx) hv h
theorem W.bl {gns : List Str} {x pos v} (ok : Ok C) (hn : C.fn.gns = gns) (hx : x ∈ gns) (hm : C.mg x = none) (hb : C.mb x = some v) (h : Q v L n) : W C (eval (.Name x pos) C.env) L n Q := W.blt ok (hn ▸ hx) hm hb h
theorem W.ret {e pos env} (h : W C (eval e env) L n fun v L₁ n₁ => QF (.ret v) L₁ n₁) : W C (exec (.Return (some e) pos) env) L n QF := fun _ hs =>
  wpAny_Return_some (lift1 h hs fun _ _ _ _ h₁ k₁ => ⟨_, _, h₁, k₁⟩)
theorem W.ifs {t b o pos env} (h : W C (isTrue t env (eval t env)) L n fun c L₁ n₁ => if c then W C (execs b env) L₁ n₁ QF else W C (execs o env) L₁ n₁ QF) : W C (exec (.If t b o pos) env) L n QF := fun _ hs =>
  wpAny_If (lift1 h hs fun c _ _ _ h₁ k₁ => by cases c <;> exact k₁ _ h₁)
theorem W.brk {pos env} (h : QF .brk L n) : W C (exec (.Break pos) env) L n QF := fun _ hs => wpAny_Break ⟨_, _, hs, h⟩
theorem W.cont {pos env} (h : QF .cont L n) : W C (exec (.Continue pos) env) L n QF := fun _ hs => wpAny_Continue ⟨_, _, hs, h⟩
theorem Sta.store {x v L'} {s : Shared} (ok : Ok C) (hs : Sta C L n s) (ha : SetAt C.fn.ns L x v L') {h' : Heap} (hn : h'.Ns C.loc (fun y => if y = x then some v else look2 C.fn.ns L y)) (hb : Heap.SameBut C.loc s.heap h') (tk : Nat) : Sta C L' n { s with heap := h', toks := tk } :=
  ⟨by rw [ha.look ok.nd]; exact hs.fr.set hn hb, hs.nw.set hb, hs.nd, hs.gb, hs.os⟩
theorem W.stn {x v L'} {Q : Unit → Loc → Led → Prop} (ok : Ok C) (ha : SetAt C.fn.ns L x v L') (h : Q () L' n) : W C (storeName C.env x v) L n Q := fun s hs =>
  wpAny_storeName_local (ok.locs x ha.mem).1 hs.fr.ns (fun h' hn hb => ⟨_, _, hs.store ok ha hn hb _, h⟩)
    (by show (C.env.scope.kind == .class || (C.env.scope.kind == .module && _)) = false; rw [ok.kind]; rfl)
theorem W.st {ns : List Str} {x v L'} {Q : Unit → Loc → Led → Prop} (ok : Ok C) (hn : C.fn.ns = ns) (ha : SetAt ns L x v L') (h : Q () L' n) : W C (storeName C.env x v) L n Q := W.stn ok (hn ▸ ha) h
-- arguments and calls
theorem W.spn {Q : List Value → Loc → Led → Prop} {pos env} (h : Q [] L n) : W C (spliced (backTo pos (starEach [] env))) L n Q := fun _ hs => spliced_nil ⟨_, _, hs, h⟩
theorem W.spc {Q : List Value → Loc → Led → Prop} {e rest pos env} (h : W C (eval e env) L n fun v L₁ n₁ => W C (spliced (backTo pos (starEach rest env))) L₁ n₁ fun vs L₂ n₂ => Q (v :: vs) L₂ n₂)
    (he : starEach (e :: rest) env = (false, eval e env) :: starEach rest env := by with_unfolding_all rfl) : W C (spliced (backTo pos (starEach (e :: rest) env))) L n Q := fun _ hs => by
  rw [he]
  exact spliced_cons (lift1 h hs fun _ _ _ _ h₁ k₁ => lift1 k₁ h₁ fun _ _ _ _ h₂ k₂ => ⟨_, _, h₂, k₂⟩)
theorem W.callN {x np args pos env} (h : W C (eval (.Name x np) env) L n fun f L₁ n₁ => W C (callWith pos f [] (backTo pos (starEach args env)) []) L₁ n₁ Q) : W C (eval (.Call (.Name x np) args [] pos) env) L n Q := fun _ hs =>
  wpAny_Call_NameR (lift1 h hs fun _ _ _ _ h₁ k₁ => k₁ _ h₁)
theorem W.cw {f : Value} {e rest pos env} (ok : Ok C) (hk : keepIn (K C.w.params) f = true) (h : W C (spliced (backTo pos (starEach (e :: rest) env))) L n fun vs L₁ n₁ => W C (call f vs) L₁ n₁ Q)
    (he : starEach (e :: rest) env = (false, eval e env) :: starEach rest env := by with_unfolding_all rfl) (hp : (backTo pos (starEach rest env)).any (·.1) = false := by with_unfolding_all rfl) :
    W C (callWith pos f [] (backTo pos (starEach (e :: rest) env)) []) L n Q := fun _ hs =>
  callWith_K (first := []) ok.k hk (lift1 h hs fun _ _ _ _ h₁ k₁ => ⟨ok.k.keeps h₁.fr.keep, k₁ _ h₁⟩) he hp
theorem W.cw0 {f : Value} {pos env} (ok : Ok C) (hk : keepIn (K C.w.params) f = true) (h : W C (call f []) L n Q) : W C (callWith pos f [] (backTo pos (starEach [] env)) []) L n Q := fun _ hs =>
  callWith_K0 (first := []) (ok.k.keeps hs.fr.keep) hk (h _ hs)
theorem W.cwm {f self : Value} {e rest pos env} (ok : Ok C) (hk : keepIn (K C.w.params) f = true) (h : W C (spliced (backTo pos (starEach (e :: rest) env))) L n fun vs L₁ n₁ => W C (call f (self :: vs)) L₁ n₁ Q)
    (he : starEach (e :: rest) env = (false, eval e env) :: starEach rest env := by with_unfolding_all rfl) (hp : (backTo pos (starEach rest env)).any (·.1) = false := by with_unfolding_all rfl) :
    W C (callWith pos f [self] (backTo pos (starEach (e :: rest) env)) []) L n Q := fun _ hs =>
  callWith_K (first := [self]) ok.k hk (lift1 h hs fun _ _ _ _ h₁ k₁ => ⟨ok.k.keeps h₁.fr.keep, k₁ _ h₁⟩) he hp
theorem W.cwm0 {f self : Value} {pos env} (ok : Ok C) (hk : keepIn (K C.w.params) f = true) (h : W C (call f [self]) L n Q) : W C (callWith pos f [self] (backTo pos (starEach [] env)) []) L n Q := fun _ hs =>
  callWith_K0 (first := [self]) (ok.k.keeps hs.fr.keep) hk (h _ hs)
theorem W.assn {x p value pos} (h : W C (eval value C.env) L n fun v L₁ n₁ => W C (storeName C.env x v) L₁ n₁ fun _ L₂ n₂ => QF .next L₂ n₂) (hs : swapsWith value (some (.Name x p)) pos.line C.env = Pure.pure false := by with_unfolding_all rfl) :
    W C (exec (.Assign [.Name x p] value pos) C.env) L n QF := fun _ hs' =>
  wpAny_Assign_Name (lift1 h hs' fun _ _ _ _ h₁ k₁ => lift1 k₁ h₁ fun _ _ _ _ h₂ k₂ => ⟨_, _, h₂, k₂⟩) hs
end
end
end
-- MCall
section
set_option autoImplicit false
noncomputable def retOf : Flow → Value
  | .ret v => v
  | _ => .none
/-- what is asked of a def's static data, all closed -/
structure FnOk (f : Fn) (body : List Stmt) : Prop where
  body : f.fd.body = .stmts body
  gl : f.fd.globals = mainGlobals
  bl : f.fd.builtins = builtinsNs
  kind : f.fd.scope.kind = .function
  co : f.fd.scope.isCoroutine = false
  gen : f.fd.scope.isGenerator = false
  cell : ∀ x ∈ f.fd.scope.names, x.2 ≠ .cell
  locs : ∀ x ∈ f.ns, f.fd.scope.names.lookup x = some .local ∧ (x == ("__debug__" : Str)) = false
  gls : ∀ x ∈ f.gns, f.fd.scope.names.lookup x = some .globalImplicit ∧ (x == ("__debug__" : Str)) = false
  nd : f.ns.Nodup
  at_ : ∀ P, (K P).lookup f.fa = some ⟨.type "function", none, .func f.fd, #[]⟩
  code : ∀ P, codeIn (K P) f.fd.code f.fd.qualname = true
noncomputable def fnCheck (f : Fn) : Bool :=
  f.fd.globals == mainGlobals && f.fd.builtins == builtinsNs && (match f.fd.scope.kind with | .function => true | _ => false) && !f.fd.scope.isCoroutine && !f.fd.scope.isGenerator &&
  f.fd.scope.names.all (fun x => match x.2 with | .cell => false | _ => true) &&
  f.ns.all (fun x => (match f.fd.scope.names.lookup x with | some .local => true | _ => false) && !(x == ("__debug__" : Str))) &&
  f.gns.all (fun x => (match f.fd.scope.names.lookup x with | some .globalImplicit => true | _ => false) && !(x == ("__debug__" : Str))) && decide f.ns.Nodup
theorem FnOk.of {f : Fn} {body : List Stmt} (hb : f.fd.body = .stmts body) (e : fnCheck f = true) (ha : ∀ P, (K P).lookup f.fa = some ⟨.type "function", none, .func f.fd, #[]⟩) (hc : ∀ P, codeIn (K P) f.fd.code f.fd.qualname = true) : FnOk f body := by
  unfold fnCheck at e
  simp only [Bool.and_eq_true, Bool.not_eq_true', decide_eq_true_eq, List.all_eq_true, beq_iff_eq] at e
  obtain ⟨⟨⟨⟨⟨⟨⟨⟨e1, e2⟩, e3⟩, e4⟩, e5⟩, e6⟩, e7⟩, e8⟩, e9⟩ := e
  refine ⟨hb, e1, e2, ?_, e4, e5, fun x hx q => ?_, fun x hx => ?_, fun x hx => ?_, e9, ha, hc⟩
  · revert e3; cases f.fd.scope.kind <;> simp
  · have := e6 x hx; rw [q] at this; cases this
  · have := e7 x hx
    refine ⟨?_, this.2⟩
    have h1 := this.1
    revert h1
    split
    · intro _; assumption
    · intro h; cases h
  · have := e8 x hx
    refine ⟨?_, this.2⟩
    have h1 := this.1
    revert h1
    split
    · intro _; assumption
    · intro h; cases h
theorem kindOf_env (fd : FuncData) (L a : Addr) (x : Str) : (callEnv fd L a).kindOf x = fd.scope.names.lookup x := rfl
theorem nsk {h h' : Heap} {a : Addr} {m : Str → Option Value} (hn : h.Ns a m) (k : ∀ b o, h.get? b = some o → h'.get? b = some o) : h'.Ns a m := hn.keeps k
theorem FnOk.keep {f : Fn} {body : List Stmt} (fo : FnOk f body) (P : Params) : keepIn (K P) (.ref f.fa) = true := by
  unfold keepIn
  dsimp only
  rw [fo.at_]
section
variable {C : Cx} {L : Loc} {n : Led} {Q : Value → Loc → Led → Prop}
/-- a plain call by places: the first names are the parameters -/
noncomputable def startL : List Str → List Value → Loc
  | [], _ => []
  | _ :: ns, v :: vs => some v :: startL ns vs
  | _ :: ns, [] => none :: startL ns []
theorem look2_none : ∀ (ns : List Str) (x : Str), look2 ns (startL ns []) x = none
  | [], _ => rfl
  | y :: ns, x => by
    show (if x = y then none else look2 ns (startL ns []) x) = none
    rw [look2_none ns x]; split <;> rfl
theorem look2_start : ∀ (ns : List Str) (vs : List Value) (x : Str), look2 ns (startL ns vs) x = (ns.zip vs).lookup x
  | [], _, _ => rfl
  | y :: ns, [], x => look2_none (y :: ns) x
  | y :: ns, v :: vs, x => by
    show (if x = y then some v else look2 ns (startL ns vs) x) = _
    rw [look2_start ns vs x, List.zip_cons_cons, List.lookup_cons]
    by_cases h : x = y
    · subst h; simp
    · have : (x == y) = false := by simpa using h
      rw [if_neg h, this]
theorem lookup_reverse {l : List (Str × Value)} (nd : (l.map (·.1)).Nodup) (x : Str) : l.reverse.lookup x = l.lookup x := by
  induction l with
  | nil => rfl
  | cons p l ih =>
    rw [List.map_cons, List.nodup_cons] at nd
    rw [List.reverse_cons, List.lookup_append, ih nd.2, List.lookup_cons]
    obtain ⟨y, v⟩ := p
    by_cases h : x = y
    · subst h
      have : l.lookup x = none := by
        cases q : l.lookup x with
        | none => rfl
        | some v' =>
          exfalso
          apply nd.1
          have := List.lookup_eq_some_iff.mp q
          obtain ⟨l1, l2, e, _⟩ := this
          rw [e]; simp
      rw [this]; simp
    · have : (x == y) = false := by simpa using h
      have e2 : List.lookup x ((y, v) :: l) = List.lookup x l := by rw [List.lookup_cons, this]
      rw [e2]
      simp only [this]
      cases l.lookup x <;> rfl
theorem zip_nodup {ns : List Str} (nd : ns.Nodup) (vs : List Value) : ((ns.zip vs).map (·.1)).Nodup := by
  induction ns generalizing vs with
  | nil => simp
  | cons y ns ih =>
    cases vs with
    | nil => simp
    | cons v vs =>
      rw [List.nodup_cons] at nd
      rw [List.zip_cons_cons, List.map_cons, List.nodup_cons]
      refine ⟨fun hm => nd.1 ?_, ih nd.2 vs⟩
      obtain ⟨p, hp, e⟩ := List.mem_map.mp hm
      have h1 := (List.of_mem_zip (a := p.1) (b := p.2) hp).1
      have h2 : p.1 = y := e
      rw [h2] at h1
      exact h1
/-- what a def's call gives, as code: nothing is raised -/
noncomputable def Gives1 (C : Cx) (Q : Value → Loc → Led → Prop) : Result → Shared → Prop
  | .ok (.ret v), s' => ∃ L' n', Sta C L' n' s' ∧ Q v L' n'
  | _, _ => False
theorem codeW {A : Around} {s : Shared} {f : Fn} {body : List Stmt} {args : List Value} {kw : List (Str × Value)} {binds : List (Str × Value)} {Lb : Loc} (hA : A.handled = none) (ok : Ok C) (fo : FnOk f body) (hroom : A.depth < recursionLimit) (hs : Sta C L n s)
    (hbind : BindsTo s f.fd ⟨args, kw⟩ binds) (hloc : ∀ y ∈ binds, y.1 ∈ f.ns) (hLb : look2 f.ns Lb = fun x => binds.reverse.lookup x)
    (h : ∀ C' : Cx, Ok C' → C'.fn = f → C'.w = C.w → (C'.A.depth = A.depth + 1 ∧ C'.A.units = A.units + 3) → (C'.E = fun _ _ => False) →
      W C' (execs body C'.env) Lb n fun fl _ n' => Q (retOf fl) L n') :
    codeAny (model P0 C.w) A (.call (.ref f.fa) ⟨args, kw⟩) (Gives1 C Q) s := by
  have X := ok.k.keeps hs.fr.keep
  refine codeAny_call_def (fd := f.fd) (body := body) (binds := binds) hroom (X _ _ (fo.at_ _)) rfl (ok.lim.keeps hs.fr.keep) (codeRec_of X (fo.code _)) fo.body hbind fo.cell
    (fun y hy => (fo.locs _ (hloc y hy)).1) (fun h₁ hns hk₁ => ?_) fo.co fo.gen fo.kind
  have nm : ∀ b o, C.h₀.get? b = some o → b ∉ (n ++ C.hid).map (·.1) := fun b o e q => by
    obtain ⟨p, hp, rfl⟩ := List.mem_map.mp q
    rw [(hs.nw p hp).2.2] at e; cases e
  have st : ∀ b o, C.h₀.get? b = some o → (hideAll s.heap ((n ++ C.hid).map (·.1))).get? b = some o := fun b o e => hideAll_get _ (hs.fr.keep b o e) (nm b o e)
  obtain ⟨oL, es, ep, hL, hLd, hLk, hLf⟩ := hs.fr.ns
  have nL : C.loc ∉ (n ++ C.hid).map (·.1) := fun q => by
    obtain ⟨p, hp, e⟩ := List.mem_map.mp q
    exact (hs.nw p hp).2.1 e
  have hLg := hideAll_get ((n ++ C.hid).map (·.1)) hL nL
  have ok' : Ok ⟨C.w, A.deeper (callEnv f.fd s.heap.objs.size f.fa), fun _ _ => False,
      hideAll s.heap ((n ++ C.hid).map (·.1)), callEnv f.fd s.heap.objs.size f.fa, f, C.mg, C.mb, C.os, C.hid, C.gp⟩ :=
    ⟨ok.k.keeps st, ok.g.keeps st, ok.b.keeps st, ok.gt, ok.bt, ok.lim.keeps st, let ⟨mc, h1, h2⟩ := ok.dig; ⟨mc, h1.keeps st, h2⟩, let ⟨bm, ob, z⟩ := ok.bm; ⟨bm, ob, z.keeps st⟩, hA, fo.gl, fo.bl, fo.kind, fo.locs, fo.gls, fo.nd⟩
  refine wpAny_mono (h _ ok' rfl rfl ⟨rfl, rfl⟩ rfl { s with heap := h₁, toks := s.toks + binds.length } ⟨?_, ?_, hs.nd, hs.gb, hs.os⟩) (fun fl s' hl => ?_) fun _ _ y => y.elim
  · exact ⟨by rw [hLb]; exact hns, fun b o e => hk₁ b o (of_hideAll _ e), Nat.le_of_eq (hideAll_size _ _)⟩
  · exact fun p hp => ⟨hk₁ _ _ (hs.nw p hp).1, Nat.ne_of_lt (Heap.lt_size (hs.nw p hp).1), hideAll_none _ (List.mem_map_of_mem hp)⟩
  obtain ⟨L', n', hs', hq⟩ := hl
  have key : ∃ L' n', Sta C L' n' s' ∧ Q (retOf fl) L' n' := by
    refine ⟨L, n', ⟨⟨⟨oL, es, ep, hs'.fr.keep C.loc oL hLg, hLd, hLk, hLf⟩, fun b o e => hs'.fr.keep b o (st b o e), hs.fr.above⟩, fun p hp => ⟨(hs'.nw p hp).1, fun q => ?_, ?_⟩, hs'.nd, hs'.gb, hs'.os⟩, hq⟩
    · have := (hs'.nw p hp).2.2; dsimp only at this; rw [q, hLg] at this; cases this
    · cases q : C.h₀.get? p.1 with
      | none => rfl
      | some o => have := (hs'.nw p hp).2.2; dsimp only at this; rw [st _ _ q] at this; cases this
  cases fl <;> exact key
theorem W.callfn {f : Fn} {body : List Stmt} {args : List Value} {kw : List (Str × Value)} {binds : List (Str × Value)} {Lb : Loc} (ok : Ok C) (fo : FnOk f body) (hroom : C.A.depth < recursionLimit)
    (hbind : ∀ s, Sta C L n s → BindsTo s f.fd ⟨args, kw⟩ binds) (hloc : ∀ y ∈ binds, y.1 ∈ f.ns) (hLb : look2 f.ns Lb = fun x => binds.reverse.lookup x)
    (h : ∀ C' : Cx, Ok C' → C'.fn = f → C'.w = C.w → (C'.A.depth = C.A.depth + 1 ∧ C'.A.units = C.A.units + 3) → (C'.E = fun _ _ => False) →
      W C' (execs body C'.env) Lb n fun fl _ n' => Q (retOf fl) L n') :
    W C (call (.ref f.fa) args kw) L n Q := fun s hs =>
  wpAny_call (codeAny_mono (codeW ok.hh ok fo hroom hs (hbind s hs) hloc hLb h) fun r s' g => by
    cases r with
    | error e => exact g.elim
    | ok f => cases f <;> first | exact g | exact g.elim)
theorem W.cf {f : Fn} {body : List Stmt} {args : List Value} (Lb : Loc) (ok : Ok C) (fo : FnOk f body) (hroom : C.A.depth < recursionLimit)
    (hbind : bindArgs f.fd ⟨args, []⟩ = Pure.pure (f.ns.zip args))
    (hLb : startL f.ns args = Lb)
    (h : ∀ C' : Cx, Ok C' → C'.fn = f → C'.w = C.w → (C'.A.depth = C.A.depth + 1 ∧ C'.A.units = C.A.units + 3) → (C'.E = fun _ _ => False) → W C' (execs body C'.env) Lb n fun fl _ n' => Q (retOf fl) L n') :
    W C (call (.ref f.fa) args) L n Q := by
  subst hLb
  exact W.callfn ok fo hroom (fun _ _ => BindsTo.of_eq hbind) (fun y hy => (List.of_mem_zip (a := y.1) (b := y.2) hy).1) (funext fun x => by rw [look2_start, lookup_reverse (zip_nodup fo.nd args)]) h
end
end
-- MFn
section
set_option autoImplicit false
noncomputable def bodyOf : Stmt → List Stmt
  | .FunctionDef _ _ b _ _ _ _ _ _ _ => b
  | _ => []
noncomputable abbrev f56 : Fn := ⟨fdOf (stAt 5) (Str.ofString "liberal_is_HDN") (.none) (.none) (.none) (.str (Str.ofString "cpy313.http.cookiejar") 331) (.ref 55) (.none), 56, [Str.ofString "text"], [Str.ofString "IPV4_RE"]⟩
theorem fo56 : FnOk f56 (bodyOf (stAt 5)) := FnOk.of (by kernel_rfl) (by kernel_rfl) (fun _ => by kernel_rfl) (fun _ => by kernel_rfl)
noncomputable abbrev f63 : Fn := ⟨fdOf (stAt 6) (Str.ofString "user_domain_match") (.none) (.none) (.none) (.str (Str.ofString "cpy313.http.cookiejar") 331) (.ref 62) (.none), 63, [Str.ofString "A", Str.ofString "B", Str.ofString "initial_dot"], [Str.ofString "liberal_is_HDN"]⟩
theorem fo63 : FnOk f63 (bodyOf (stAt 6)) := FnOk.of (by kernel_rfl) (by kernel_rfl) (fun _ => by kernel_rfl) (fun _ => by kernel_rfl)
noncomputable abbrev f82 : Fn := ⟨fdOf (stAt 10) (Str.ofString "_index") (.none) (.none) (.none) (.str (Str.ofString "io") 419) (.ref 81) (.none), 82, [Str.ofString "n", Str.ofString "what"], [Str.ofString "type", Str.ofString "int", Str.ofString "bool", Str.ofString "_wall"]⟩
theorem fo82 : FnOk f82 (bodyOf (stAt 10)) := FnOk.of (by kernel_rfl) (by kernel_rfl) (fun _ => by kernel_rfl) (fun _ => by kernel_rfl)
noncomputable abbrev f109 : Fn := ⟨fdOf (mAt 12 1) (Str.ofString "IOBase.__new__") (.none) (.none) (.none) (.str (Str.ofString "io") 419) (.ref 108) (.none), 109, [Str.ofString "cls", Str.ofString "args", Str.ofString "kwargs"], [Str.ofString "BytesIO", Str.ofString "StringIO", Str.ofString "_wall", Str.ofString "object"]⟩
theorem fo109 : FnOk f109 (bodyOf (mAt 12 1)) := FnOk.of (by kernel_rfl) (by kernel_rfl) (fun _ => by kernel_rfl) (fun _ => by kernel_rfl)
noncomputable abbrev f386 : Fn := ⟨fdOf (mAt 16 1) (Str.ofString "StringIO.__init__") (.ref 379) (.none) (.none) (.str (Str.ofString "io") 419) (.ref 385) (.none), 386, [Str.ofString "self", Str.ofString "initial_value", Str.ofString "newline"], [Str.ofString "type", Str.ofString "str", Str.ofString "_wall", Str.ofString "ValueError"]⟩
theorem fo386 : FnOk f386 (bodyOf (mAt 16 1)) := FnOk.of (by kernel_rfl) (by kernel_rfl) (fun _ => by kernel_rfl) (fun _ => by kernel_rfl)
noncomputable abbrev f393 : Fn := ⟨fdOf (mAt 16 2) (Str.ofString "StringIO.__translated") (.none) (.none) (.none) (.str (Str.ofString "io") 419) (.ref 392) (.none), 393, [Str.ofString "self", Str.ofString "s", Str.ofString "newline"], []⟩
theorem fo393 : FnOk f393 (bodyOf (mAt 16 2)) := FnOk.of (by kernel_rfl) (by kernel_rfl) (fun _ => by kernel_rfl) (fun _ => by kernel_rfl)
noncomputable abbrev f400 : Fn := ⟨fdOf (mAt 16 3) (Str.ofString "StringIO.__check") (.none) (.none) (.none) (.str (Str.ofString "io") 419) (.ref 399) (.none), 400, [Str.ofString "self"], [Str.ofString "ValueError"]⟩
theorem fo400 : FnOk f400 (bodyOf (mAt 16 3)) := FnOk.of (by kernel_rfl) (by kernel_rfl) (fun _ => by kernel_rfl) (fun _ => by kernel_rfl)
noncomputable abbrev f562 : Fn := ⟨fdOf (mAt 16 25) (Str.ofString "StringIO.read") (.ref 555) (.none) (.none) (.str (Str.ofString "io") 419) (.ref 561) (.none), 562, [Str.ofString "self", Str.ofString "size", Str.ofString "start", Str.ofString "stop"], [Str.ofString "_index", Str.ofString "len"]⟩
theorem fo562 : FnOk f562 (bodyOf (mAt 16 25)) := FnOk.of (by kernel_rfl) (by kernel_rfl) (fun _ => by kernel_rfl) (fun _ => by kernel_rfl)
noncomputable abbrev f675 : Fn := ⟨fdOf (mAt 26 0) (Str.ofString "shlex.__init__") (.ref 668) (.none) (.none) (.str (Str.ofString "cpy313.shlex") 1135) (.ref 674) (.none), 675, [Str.ofString "self", Str.ofString "instream", Str.ofString "infile", Str.ofString "posix", Str.ofString "punctuation_chars", Str.ofString "t"], [Str.ofString "isinstance", Str.ofString "str", Str.ofString "StringIO", Str.ofString "_wall", Str.ofString "deque", Str.ofString "dict"]⟩
theorem fo675 : FnOk f675 (bodyOf (mAt 26 0)) := FnOk.of (by kernel_rfl) (by kernel_rfl) (fun _ => by kernel_rfl) (fun _ => by kernel_rfl)
noncomputable abbrev f682 : Fn := ⟨fdOf (mAt 26 1) (Str.ofString "shlex.punctuation_chars") (.none) (.none) (.none) (.str (Str.ofString "cpy313.shlex") 1135) (.ref 681) (.none), 682, [Str.ofString "self"], []⟩
theorem fo682 : FnOk f682 (bodyOf (mAt 26 1)) := FnOk.of (by kernel_rfl) (by kernel_rfl) (fun _ => by kernel_rfl) (fun _ => by kernel_rfl)
noncomputable abbrev f712 : Fn := ⟨fdOf (mAt 26 5) (Str.ofString "shlex.get_token") (.none) (.none) (.none) (.str (Str.ofString "cpy313.shlex") 1135) (.ref 711) (.none), 712, [Str.ofString "self", Str.ofString "tok", Str.ofString "raw", Str.ofString "spec", Str.ofString "newfile", Str.ofString "newstream"], [Str.ofString "print", Str.ofString "repr"]⟩
theorem fo712 : FnOk f712 (bodyOf (mAt 26 5)) := FnOk.of (by kernel_rfl) (by kernel_rfl) (fun _ => by kernel_rfl) (fun _ => by kernel_rfl)
noncomputable abbrev f719 : Fn := ⟨fdOf (mAt 26 6) (Str.ofString "shlex.read_token") (.none) (.none) (.none) (.str (Str.ofString "cpy313.shlex") 1135) (.ref 718) (.none), 719, [Str.ofString "self", Str.ofString "quoted", Str.ofString "escapedstate", Str.ofString "nextchar", Str.ofString "result"], [Str.ofString "print", Str.ofString "ValueError", Str.ofString "repr"]⟩
theorem fo719 : FnOk f719 (bodyOf (mAt 26 6)) := FnOk.of (by kernel_rfl) (by kernel_rfl) (fun _ => by kernel_rfl) (fun _ => by kernel_rfl)
noncomputable abbrev f741 : Fn := ⟨fdOf (mAt 26 9) (Str.ofString "shlex.__iter__") (.none) (.none) (.none) (.str (Str.ofString "cpy313.shlex") 1135) (.ref 740) (.none), 741, [Str.ofString "self"], []⟩
theorem fo741 : FnOk f741 (bodyOf (mAt 26 9)) := FnOk.of (by kernel_rfl) (by kernel_rfl) (fun _ => by kernel_rfl) (fun _ => by kernel_rfl)
noncomputable abbrev f748 : Fn := ⟨fdOf (mAt 26 10) (Str.ofString "shlex.__next__") (.none) (.none) (.none) (.str (Str.ofString "cpy313.shlex") 1135) (.ref 747) (.none), 748, [Str.ofString "self", Str.ofString "token"], [Str.ofString "StopIteration"]⟩
theorem fo748 : FnOk f748 (bodyOf (mAt 26 10)) := FnOk.of (by kernel_rfl) (by kernel_rfl) (fun _ => by kernel_rfl) (fun _ => by kernel_rfl)
noncomputable abbrev f763 : Fn := ⟨fdOf (stAt 27) (Str.ofString "split") (.ref 756) (.none) (.none) (.str (Str.ofString "cpy313.shlex") 1135) (.ref 762) (.none), 763, [Str.ofString "s", Str.ofString "comments", Str.ofString "posix", Str.ofString "lex"], [Str.ofString "ValueError", Str.ofString "shlex", Str.ofString "list"]⟩
theorem fo763 : FnOk f763 (bodyOf (stAt 27)) := FnOk.of (by kernel_rfl) (by kernel_rfl) (fun _ => by kernel_rfl) (fun _ => by kernel_rfl)
noncomputable abbrev f770 : Fn := ⟨fdOf (stAt 28) (Str.ofString "join") (.none) (.none) (.none) (.str (Str.ofString "cpy313.shlex") 1135) (.ref 769) (.none), 770, [Str.ofString "split_command"], []⟩
theorem fo770 : FnOk f770 (bodyOf (stAt 28)) := FnOk.of (by kernel_rfl) (by kernel_rfl) (fun _ => by kernel_rfl) (fun _ => by kernel_rfl)
noncomputable abbrev f778 : Fn := ⟨fdOf (stAt 31) (Str.ofString "quote") (.none) (.none) (.none) (.str (Str.ofString "cpy313.shlex") 1135) (.ref 777) (.none), 778, [Str.ofString "s"], [Str.ofString "_find_unsafe"]⟩
theorem fo778 : FnOk f778 (bodyOf (stAt 31)) := FnOk.of (by kernel_rfl) (by kernel_rfl) (fun _ => by kernel_rfl) (fun _ => by kernel_rfl)
noncomputable abbrev f785 : Fn := ⟨fdOf (stAt 33) (Str.ofString "S_IMODE") (.none) (.none) (.none) (.str (Str.ofString "cpy313.stat") 1303) (.ref 784) (.none), 785, [Str.ofString "mode"], []⟩
theorem fo785 : FnOk f785 (bodyOf (stAt 33)) := FnOk.of (by kernel_rfl) (by kernel_rfl) (fun _ => by kernel_rfl) (fun _ => by kernel_rfl)
noncomputable abbrev f792 : Fn := ⟨fdOf (stAt 34) (Str.ofString "S_IFMT") (.none) (.none) (.none) (.str (Str.ofString "cpy313.stat") 1303) (.ref 791) (.none), 792, [Str.ofString "mode"], []⟩
theorem fo792 : FnOk f792 (bodyOf (stAt 34)) := FnOk.of (by kernel_rfl) (by kernel_rfl) (fun _ => by kernel_rfl) (fun _ => by kernel_rfl)
noncomputable abbrev f832 : Fn := ⟨fdOf (stAt 55) (Str.ofString "filemode") (.none) (.none) (.none) (.str (Str.ofString "cpy313.stat") 1303) (.ref 831) (.none), 832, [Str.ofString "mode", Str.ofString "perm", Str.ofString "index", Str.ofString "table", Str.ofString "bit", Str.ofString "char"], [Str.ofString "enumerate", Str.ofString "_filemode_table", Str.ofString "S_IFMT"]⟩
theorem fo832 : FnOk f832 (bodyOf (stAt 55)) := FnOk.of (by kernel_rfl) (by kernel_rfl) (fun _ => by kernel_rfl) (fun _ => by kernel_rfl)
noncomputable abbrev f839 : Fn := ⟨fdOf (stAt 57) (Str.ofString "_law_zones") (.none) (.none) (.none) (.str (Str.ofString "law_oc0310_01") 1395) (.ref 838) (.none), 839, [], []⟩
theorem fo839 : FnOk f839 (bodyOf (stAt 57)) := FnOk.of (by kernel_rfl) (by kernel_rfl) (fun _ => by kernel_rfl) (fun _ => by kernel_rfl)
noncomputable abbrev f846 : Fn := ⟨fdOf (stAt 58) (Str.ofString "_law_hosts") (.none) (.none) (.none) (.str (Str.ofString "law_oc0310_01") 1395) (.ref 845) (.none), 846, [], []⟩
theorem fo846 : FnOk f846 (bodyOf (stAt 58)) := FnOk.of (by kernel_rfl) (by kernel_rfl) (fun _ => by kernel_rfl) (fun _ => by kernel_rfl)
noncomputable abbrev f853 : Fn := ⟨fdOf (stAt 59) (Str.ofString "_law_words") (.none) (.none) (.none) (.str (Str.ofString "law_oc0310_01") 1395) (.ref 852) (.none), 853, [Str.ofString "rules", Str.ofString "zones", Str.ofString "words", Str.ofString "plus", Str.ofString "place", Str.ofString "mask", Str.ofString "dotted", Str.ofString "labels", Str.ofString "figures"], [Str.ofString "_law_zones", Str.ofString "str"]⟩
theorem fo853 : FnOk f853 (bodyOf (stAt 59)) := FnOk.of (by kernel_rfl) (by kernel_rfl) (fun _ => by kernel_rfl) (fun _ => by kernel_rfl)
noncomputable abbrev f860 : Fn := ⟨fdOf (stAt 60) (Str.ofString "_law_read") (.none) (.none) (.none) (.str (Str.ofString "law_oc0310_01") 1395) (.ref 859) (.none), 860, [Str.ofString "words", Str.ofString "rules", Str.ofString "k", Str.ofString "mask", Str.ofString "figure"], [Str.ofString "range", Str.ofString "len", Str.ofString "int"]⟩
theorem fo860 : FnOk f860 (bodyOf (stAt 60)) := FnOk.of (by kernel_rfl) (by kernel_rfl) (fun _ => by kernel_rfl) (fun _ => by kernel_rfl)
noncomputable abbrev f867 : Fn := ⟨fdOf (stAt 61) (Str.ofString "_law_led") (.none) (.none) (.none) (.str (Str.ofString "law_oc0310_01") 1395) (.ref 866) (.none), 867, [Str.ofString "start", Str.ofString "host", Str.ofString "words", Str.ofString "held", Str.ofString "plus", Str.ofString "mask", Str.ofString "zone"], [Str.ofString "_law_read", Str.ofString "user_domain_match", Str.ofString "S_IFMT", Str.ofString "S_IMODE"]⟩
theorem fo867 : FnOk f867 (bodyOf (stAt 61)) := FnOk.of (by kernel_rfl) (by kernel_rfl) (fun _ => by kernel_rfl) (fun _ => by kernel_rfl)
noncomputable abbrev f872 : Fn := ⟨fdOf (stAt 62) (Str.ofString "_law_short") (.none) (.none) (.none) (.str (Str.ofString "law_oc0310_01") 1395) (.ref 871) (.none), 872, [Str.ofString "words", Str.ofString "rules", Str.ofString "short", Str.ofString "k", Str.ofString "plus", Str.ofString "over"], [Str.ofString "_law_read", Str.ofString "range", Str.ofString "len"]⟩
noncomputable abbrev f877 : Fn := ⟨fdOf (stAt 63) (Str.ofString "_law_holds") (.none) (.none) (.none) (.str (Str.ofString "law_oc0310_01") 1395) (.ref 876) (.none), 877, [Str.ofString "host", Str.ofString "zone", Str.ofString "dotted", Str.ofString "labels", Str.ofString "names", Str.ofString "own"], [Str.ofString "len"]⟩
theorem fo877 : FnOk f877 (bodyOf (stAt 63)) := FnOk.of (by kernel_rfl) (by kernel_rfl) (fun _ => by kernel_rfl) (fun _ => by kernel_rfl)
noncomputable abbrev f882 : Fn := ⟨fdOf (stAt 64) (Str.ofString "_law_listing") (.none) (.none) (.none) (.str (Str.ofString "law_oc0310_01") 1395) (.ref 881) (.none), 882, [Str.ofString "start", Str.ofString "rules", Str.ofString "fits", Str.ofString "given", Str.ofString "said", Str.ofString "signs", Str.ofString "part", Str.ofString "run"], [Str.ofString "_law_zones", Str.ofString "range"]⟩
noncomputable abbrev f887 : Fn := ⟨fdOf (stAt 65) (Str.ofString "law") (.none) (.none) (.none) (.str (Str.ofString "law_oc0310_01") 1395) (.ref 886) (.none), 887, [Str.ofString "script", Str.ofString "first", Str.ofString "start", Str.ofString "rules", Str.ofString "words", Str.ofString "short", Str.ofString "place", Str.ofString "labels", Str.ofString "host", Str.ofString "held"], [Str.ofString "split", Str.ofString "join_shlex", Str.ofString "_law_words", Str.ofString "_law_short", Str.ofString "_law_hosts", Str.ofString "_law_led", Str.ofString "filemode", Str.ofString "_law_listing"]⟩
theorem fo887 : FnOk f887 (bodyOf (stAt 65)) := FnOk.of (by kernel_rfl) (by kernel_rfl) (fun _ => by kernel_rfl) (fun _ => by kernel_rfl)
theorem gt_deque {C : Cx} (ok : Ok C) : C.mg (Str.ofString "deque") = some (.type "collections.deque") := ok.gt (Str.ofString "deque", some (.type "collections.deque")) (List.mem_of_getElem? (i := 0) (by kernel_rfl))
theorem gt_IPV4_RE {C : Cx} (ok : Ok C) : C.mg (Str.ofString "IPV4_RE") = some (.ref 49) := ok.gt (Str.ofString "IPV4_RE", some (.ref 49)) (List.mem_of_getElem? (i := 1) (by kernel_rfl))
theorem gt_liberal_is_HDN {C : Cx} (ok : Ok C) : C.mg (Str.ofString "liberal_is_HDN") = some (.ref 56) := ok.gt (Str.ofString "liberal_is_HDN", some (.ref 56)) (List.mem_of_getElem? (i := 2) (by kernel_rfl))
theorem gt_user_domain_match {C : Cx} (ok : Ok C) : C.mg (Str.ofString "user_domain_match") = some (.ref 63) := ok.gt (Str.ofString "user_domain_match", some (.ref 63)) (List.mem_of_getElem? (i := 3) (by kernel_rfl))
theorem gt_uindex {C : Cx} (ok : Ok C) : C.mg (Str.ofString "_index") = some (.ref 82) := ok.gt (Str.ofString "_index", some (.ref 82)) (List.mem_of_getElem? (i := 4) (by kernel_rfl))
theorem gt_BytesIO {C : Cx} (ok : Ok C) : C.mg (Str.ofString "BytesIO") = some (.ref 369) := ok.gt (Str.ofString "BytesIO", some (.ref 369)) (List.mem_of_getElem? (i := 5) (by kernel_rfl))
theorem gt_StringIO {C : Cx} (ok : Ok C) : C.mg (Str.ofString "StringIO") = some (.ref 616) := ok.gt (Str.ofString "StringIO", some (.ref 616)) (List.mem_of_getElem? (i := 6) (by kernel_rfl))
theorem gt_shlex {C : Cx} (ok : Ok C) : C.mg (Str.ofString "shlex") = some (.ref 751) := ok.gt (Str.ofString "shlex", some (.ref 751)) (List.mem_of_getElem? (i := 7) (by kernel_rfl))
theorem gt_split {C : Cx} (ok : Ok C) : C.mg (Str.ofString "split") = some (.ref 763) := ok.gt (Str.ofString "split", some (.ref 763)) (List.mem_of_getElem? (i := 8) (by kernel_rfl))
theorem gt_join_shlex {C : Cx} (ok : Ok C) : C.mg (Str.ofString "join_shlex") = some (.ref 770) := ok.gt (Str.ofString "join_shlex", some (.ref 770)) (List.mem_of_getElem? (i := 9) (by kernel_rfl))
theorem gt_ufind_unsafe {C : Cx} (ok : Ok C) : C.mg (Str.ofString "_find_unsafe") = some (.ref 771) := ok.gt (Str.ofString "_find_unsafe", some (.ref 771)) (List.mem_of_getElem? (i := 10) (by kernel_rfl))
theorem gt_quote {C : Cx} (ok : Ok C) : C.mg (Str.ofString "quote") = some (.ref 778) := ok.gt (Str.ofString "quote", some (.ref 778)) (List.mem_of_getElem? (i := 11) (by kernel_rfl))
theorem gt_S_IMODE {C : Cx} (ok : Ok C) : C.mg (Str.ofString "S_IMODE") = some (.ref 785) := ok.gt (Str.ofString "S_IMODE", some (.ref 785)) (List.mem_of_getElem? (i := 12) (by kernel_rfl))
theorem gt_S_IFMT {C : Cx} (ok : Ok C) : C.mg (Str.ofString "S_IFMT") = some (.ref 792) := ok.gt (Str.ofString "S_IFMT", some (.ref 792)) (List.mem_of_getElem? (i := 13) (by kernel_rfl))
theorem gt_ufilemode_table {C : Cx} (ok : Ok C) : C.mg (Str.ofString "_filemode_table") = some (.ref 825) := ok.gt (Str.ofString "_filemode_table", some (.ref 825)) (List.mem_of_getElem? (i := 14) (by kernel_rfl))
theorem gt_filemode {C : Cx} (ok : Ok C) : C.mg (Str.ofString "filemode") = some (.ref 832) := ok.gt (Str.ofString "filemode", some (.ref 832)) (List.mem_of_getElem? (i := 15) (by kernel_rfl))
theorem gt_ulaw_zones {C : Cx} (ok : Ok C) : C.mg (Str.ofString "_law_zones") = some (.ref 839) := ok.gt (Str.ofString "_law_zones", some (.ref 839)) (List.mem_of_getElem? (i := 16) (by kernel_rfl))
theorem gt_ulaw_hosts {C : Cx} (ok : Ok C) : C.mg (Str.ofString "_law_hosts") = some (.ref 846) := ok.gt (Str.ofString "_law_hosts", some (.ref 846)) (List.mem_of_getElem? (i := 17) (by kernel_rfl))
theorem gt_ulaw_words {C : Cx} (ok : Ok C) : C.mg (Str.ofString "_law_words") = some (.ref 853) := ok.gt (Str.ofString "_law_words", some (.ref 853)) (List.mem_of_getElem? (i := 18) (by kernel_rfl))
theorem gt_ulaw_read {C : Cx} (ok : Ok C) : C.mg (Str.ofString "_law_read") = some (.ref 860) := ok.gt (Str.ofString "_law_read", some (.ref 860)) (List.mem_of_getElem? (i := 19) (by kernel_rfl))
theorem gt_ulaw_led {C : Cx} (ok : Ok C) : C.mg (Str.ofString "_law_led") = some (.ref 867) := ok.gt (Str.ofString "_law_led", some (.ref 867)) (List.mem_of_getElem? (i := 20) (by kernel_rfl))
theorem gt_ulaw_short {C : Cx} (ok : Ok C) : C.mg (Str.ofString "_law_short") = some (.ref 872) := ok.gt (Str.ofString "_law_short", some (.ref 872)) (List.mem_of_getElem? (i := 21) (by kernel_rfl))
theorem gt_ulaw_holds {C : Cx} (ok : Ok C) : C.mg (Str.ofString "_law_holds") = some (.ref 877) := ok.gt (Str.ofString "_law_holds", some (.ref 877)) (List.mem_of_getElem? (i := 22) (by kernel_rfl))
theorem gt_ulaw_listing {C : Cx} (ok : Ok C) : C.mg (Str.ofString "_law_listing") = some (.ref 882) := ok.gt (Str.ofString "_law_listing", some (.ref 882)) (List.mem_of_getElem? (i := 23) (by kernel_rfl))
theorem gt_law {C : Cx} (ok : Ok C) : C.mg (Str.ofString "law") = some (.ref 887) := ok.gt (Str.ofString "law", some (.ref 887)) (List.mem_of_getElem? (i := 24) (by kernel_rfl))
theorem gt_type {C : Cx} (ok : Ok C) : C.mg (Str.ofString "type") = none := ok.gt (Str.ofString "type", none) (List.mem_of_getElem? (i := 25) (by kernel_rfl))
theorem gt_int {C : Cx} (ok : Ok C) : C.mg (Str.ofString "int") = none := ok.gt (Str.ofString "int", none) (List.mem_of_getElem? (i := 26) (by kernel_rfl))
theorem gt_len {C : Cx} (ok : Ok C) : C.mg (Str.ofString "len") = none := ok.gt (Str.ofString "len", none) (List.mem_of_getElem? (i := 27) (by kernel_rfl))
theorem gt_isinstance {C : Cx} (ok : Ok C) : C.mg (Str.ofString "isinstance") = none := ok.gt (Str.ofString "isinstance", none) (List.mem_of_getElem? (i := 28) (by kernel_rfl))
theorem gt_str {C : Cx} (ok : Ok C) : C.mg (Str.ofString "str") = none := ok.gt (Str.ofString "str", none) (List.mem_of_getElem? (i := 29) (by kernel_rfl))
theorem gt_list {C : Cx} (ok : Ok C) : C.mg (Str.ofString "list") = none := ok.gt (Str.ofString "list", none) (List.mem_of_getElem? (i := 30) (by kernel_rfl))
theorem gt_StopIteration {C : Cx} (ok : Ok C) : C.mg (Str.ofString "StopIteration") = none := ok.gt (Str.ofString "StopIteration", none) (List.mem_of_getElem? (i := 31) (by kernel_rfl))
theorem gt_object {C : Cx} (ok : Ok C) : C.mg (Str.ofString "object") = none := ok.gt (Str.ofString "object", none) (List.mem_of_getElem? (i := 32) (by kernel_rfl))
theorem gt_enumerate {C : Cx} (ok : Ok C) : C.mg (Str.ofString "enumerate") = none := ok.gt (Str.ofString "enumerate", none) (List.mem_of_getElem? (i := 33) (by kernel_rfl))
theorem gt_range {C : Cx} (ok : Ok C) : C.mg (Str.ofString "range") = none := ok.gt (Str.ofString "range", none) (List.mem_of_getElem? (i := 34) (by kernel_rfl))
theorem bt_type {C : Cx} (ok : Ok C) : C.mb (Str.ofString "type") = some (.type "type") := (ok.bt _ (by decide +kernel)).trans (by kernel_rfl)
theorem bt_int {C : Cx} (ok : Ok C) : C.mb (Str.ofString "int") = some (.type "int") := (ok.bt _ (by decide +kernel)).trans (by kernel_rfl)
theorem bt_len {C : Cx} (ok : Ok C) : C.mb (Str.ofString "len") = some (.builtin "len") := (ok.bt _ (by decide +kernel)).trans (by kernel_rfl)
theorem bt_isinstance {C : Cx} (ok : Ok C) : C.mb (Str.ofString "isinstance") = some (.builtin "isinstance") := (ok.bt _ (by decide +kernel)).trans (by kernel_rfl)
theorem bt_str {C : Cx} (ok : Ok C) : C.mb (Str.ofString "str") = some (.type "str") := (ok.bt _ (by decide +kernel)).trans (by kernel_rfl)
theorem bt_list {C : Cx} (ok : Ok C) : C.mb (Str.ofString "list") = some (.type "list") := (ok.bt _ (by decide +kernel)).trans (by kernel_rfl)
theorem bt_StopIteration {C : Cx} (ok : Ok C) : C.mb (Str.ofString "StopIteration") = some (.type "StopIteration") := (ok.bt _ (by decide +kernel)).trans (by kernel_rfl)
theorem bt_object {C : Cx} (ok : Ok C) : C.mb (Str.ofString "object") = some (.type "object") := (ok.bt _ (by decide +kernel)).trans (by kernel_rfl)
theorem bt_enumerate {C : Cx} (ok : Ok C) : C.mb (Str.ofString "enumerate") = some (.type "enumerate") := (ok.bt _ (by decide +kernel)).trans (by kernel_rfl)
theorem bt_range {C : Cx} (ok : Ok C) : C.mb (Str.ofString "range") = some (.type "range") := (ok.bt _ (by decide +kernel)).trans (by kernel_rfl)
end
-- MObj
section
set_option autoImplicit false
/-- an object of the ledger is changed in its place -/
inductive UpdL (d : Addr) (o o' : Obj) : Led → Led → Prop
  | here {r} : UpdL d o o' ((d, o) :: r) ((d, o') :: r)
  | there {p r r'} : UpdL d o o' r r' → UpdL d o o' (p :: r) (p :: r')
theorem UpdL.app {d o o' n n'} (u : UpdL d o o' n n') (r : Led) : UpdL d o o' (n ++ r) (n' ++ r) := by
  induction u with
  | here => exact .here
  | there _ ih => exact .there ih
theorem UpdL.keys {d o o' n n'} (u : UpdL d o o' n n') : n'.map (·.1) = n.map (·.1) := by
  induction u with
  | here => rfl
  | there _ ih => rw [List.map_cons, List.map_cons, ih]
theorem UpdL.mem {d o o' n n'} (u : UpdL d o o' n n') : (d, o) ∈ n := by
  induction u with
  | here => exact .head _
  | there _ ih => exact .tail _ ih
theorem UpdL.upd {d o o' n n'} (u : UpdL d o o' n n') (nd : (n.map (·.1)).Nodup) : Upd d o o' n n' := by
  induction u with
  | @here r =>
    rw [List.map_cons, List.nodup_cons] at nd
    exact .head fun p hp e => nd.1 (List.mem_map.mpr ⟨p, hp, e⟩)
  | @there p r r' u ih =>
    rw [List.map_cons, List.nodup_cons] at nd
    refine .tail (fun e => nd.1 ?_) (ih nd.2)
    exact List.mem_map.mpr ⟨_, u.mem, e.symm⟩
/-- what an object's dict says -/
structure Dct (es : List DictEntry) (ns : List Str) (vs : Loc) (b : Nat) : Prop where
  get : ∀ y, getL y es = some (look2 ns vs y)
  len : es.length ≤ b
theorem getL_put (name : Str) (hsh : Int) (t : Tok) (v : Value) : ∀ (es : List DictEntry) (y : Str) (r : Option Value), getL y es = some r → getL y (putL name hsh (.str name t) v es) = some (if y = name then some v else r)
  | [], y, r, h => by
    have hr : r = none := by simpa [getL] using h.symm
    subst hr
    show getL y [⟨hsh, .str name t, v⟩] = _
    by_cases e : y = name
    · subst e; simp [getL, Value.isStr]
    · have : (name == y) = false := by simpa using fun z : name = y => e z.symm
      simp [getL, Value.isStr, e, this, DictEntry.refKey]
  | e :: es, y, r, h => by
    unfold putL
    cases hk : e.key.isStr name with
    | true =>
      simp only [if_true]
      by_cases q : y = name
      · subst q
        simp [getL, List.find?_cons, hk]
      · have hy : e.key.isStr y = false := by
          cases hk2 : e.key.isStr y with
          | false => rfl
          | true =>
            exfalso
            revert hk hk2
            cases e.key <;> simp [Value.isStr]
            intro a b; exact q (b.symm.trans a)
        rw [if_neg q]
        have h' := h
        simp only [getL, List.find?_cons, hy, List.any_cons] at h' ⊢
        exact h'
    | false =>
      simp only [Bool.false_eq_true, if_false]
      cases hy : e.key.isStr y with
      | true =>
        have q : ¬ y = name := fun q => by rw [q, hk] at hy; cases hy
        rw [if_neg q]
        simp only [getL, List.find?_cons, hy] at h ⊢
        exact h
      | false =>
        have key : ∀ l : List DictEntry, getL y (e :: l) = match l.find? (fun x => x.key.isStr y) with
            | some e' => some (some e'.val)
            | none => if (e.refKey || l.any (fun x => x.refKey)) = true then none else some none := fun l => by simp only [getL, List.find?_cons, hy, List.any_cons]; rfl
        rw [key] at h ⊢
        by_cases hrk : e.refKey = true
        · cases hf : es.find? (fun x => x.key.isStr y) with
          | none => rw [hf] at h; simp [hrk] at h
          | some e' =>
            rw [hf] at h
            have h2 : getL y es = some r := by simp only [getL, hf]; exact h
            have ih := getL_put name hsh t v es y r h2
            cases hg : (putL name hsh (.str name t) v es).find? (fun x => x.key.isStr y) with
            | some e'' => simp only [getL, hg] at ih; exact ih
            | none =>
              exfalso
              have hn : some e'.val = r := Option.some.inj h
              simp only [getL, hg] at ih
              revert ih
              split
              · intro ih; cases ih
              · intro ih
                have := Option.some.inj ih
                revert this
                split
                · intro z; cases z
                · intro z; rw [← hn] at z; cases z
        · have hrk' : e.refKey = false := by simpa using hrk
          have h2 : getL y es = some r := by
            rw [hrk'] at h
            simp only [Bool.false_or] at h
            exact h
          have ih := getL_put name hsh t v es y r h2
          rw [hrk']
          simp only [Bool.false_or]
          exact ih
theorem putL_len (name : Str) (hsh : Int) (key v : Value) : ∀ es : List DictEntry, (putL name hsh key v es).length ≤ es.length + 1
  | [] => Nat.le_refl _
  | e :: es => by
    unfold putL
    split
    · simp
    · have := putL_len name hsh key v es
      simp only [List.length_cons]; omega
theorem putL_len' (name : Str) (hsh : Int) (key v : Value) : ∀ es : List DictEntry, es.any (·.key.isStr name) = true → (putL name hsh key v es).length = es.length
  | [], h => by cases h
  | e :: es, h => by
    unfold putL
    split
    · simp
    · rename_i q
      have h' : es.any (·.key.isStr name) = true := by
        rw [List.any_cons] at h
        cases hk : e.key.isStr name with
        | true => exact absurd hk q
        | false => rw [hk] at h; exact h
      simp only [List.length_cons, putL_len' name hsh key v es h']
theorem any_of_getL {name : Str} {es : List DictEntry} {v : Value} (h : getL name es = some (some v)) : es.any (·.key.isStr name) = true := by
  unfold getL at h
  cases hf : es.find? (fun x => x.key.isStr name) with
  | some e => exact List.any_eq_true.mpr ⟨e, List.mem_of_find?_eq_some hf, by have := List.find?_some hf; exact this⟩
  | none =>
    rw [hf] at h
    dsimp only at h
    split at h <;> cases h
theorem Dct.put {es ns vs b name v vs'} (D : Dct es ns vs b) (nd : ns.Nodup) (ha : SetAt ns vs name v vs') (hsh : Int) (t : Tok) : Dct (putL name hsh (.str name t) v es) ns vs' (b + 1) :=
  ⟨fun y => by rw [getL_put name hsh t v es y _ (D.get y), ha.look nd], Nat.le_trans (putL_len ..) (Nat.add_le_add_right D.len 1)⟩
theorem Dct.put' {es ns vs b name v vs' u} (D : Dct es ns vs b) (nd : ns.Nodup) (hu : At ns vs name u) (ha : SetAt ns vs name v vs') (hsh : Int) (t : Tok) : Dct (putL name hsh (.str name t) v es) ns vs' b :=
  ⟨fun y => by rw [getL_put name hsh t v es y _ (D.get y), ha.look nd], by rw [putL_len' _ _ _ _ _ (any_of_getL ((D.get name).trans (by rw [hu.look nd])))]; exact D.len⟩
/-- a class whose instances bear the names ns in their dicts -/
structure ClsOk (Cl : Addr) (ns : List Str) : Prop where
  get : ∀ P x, plainGet (K P) Cl x = true
  dict : ∀ P, hasDictIn (K P) Cl = true
  own : ∀ P, ∀ x ∈ ns, findIn (K P) (.ref Cl) x = some none
  set : ∀ P, findIn (K P) (.ref Cl) "__setattr__" = some (some (.builtin "object.__setattr__"))
  over : ∀ P, plainOver (K P) Cl = true
  take : ∀ P, ∀ x ∈ ns, takerIn (K P) Cl x = some none
  nd : ns.Nodup
theorem ClsOk.of {Cl : Addr} {ns : List Str} (h1 : ∀ P, plainGet (K P) Cl (Str.ofString "") = true) (h2 : ∀ P, hasDictIn (K P) Cl = true) (h3 : ∀ P, (ns.all fun x => findIn (K P) (.ref Cl) x == some none) = true)
    (h4 : ∀ P, findIn (K P) (.ref Cl) "__setattr__" = some (some (.builtin "object.__setattr__"))) (h5 : ∀ P, plainOver (K P) Cl = true) (h6 : ∀ P, (ns.all fun x => takerIn (K P) Cl x == some none) = true) (h7 : decide ns.Nodup = true) : ClsOk Cl ns :=
  ⟨fun P _ => h1 P, h2, fun P x hx => beq_iff_eq.mp (List.all_eq_true.mp (h3 P) x hx), h4, h5, fun P x hx => beq_iff_eq.mp (List.all_eq_true.mp (h6 P) x hx), of_decide_eq_true h7⟩
section
variable {C : Cx} {L : Loc} {n : Led} {Q : Value → Loc → Led → Prop} {QF : Flow → Loc → Led → Prop}
theorem Sta.inst {s : Shared} {x dx Cl : Addr} {od : Obj} (hs : Sta C L n s) (hx : (x, instObj Cl dx) ∈ n) (hd : (dx, od) ∈ n) : W.InstAt s.heap x (instObj Cl dx) Cl (some od) := InstAt.of_news hs.nw (List.mem_append_left _ hx) (List.mem_append_left _ hd)
theorem W.getA {x dx Cl : Addr} {es : List DictEntry} {k b : Nat} {ns : List Str} {vs : Loc} {name : Str} {v : Value} {expr : Bool} (ok : Ok C) (co : ClsOk Cl ns) (hx : (x, instObj Cl dx) ∈ n) (hd : (dx, dictOf es k) ∈ n) (D : Dct es ns vs b) (ha : At ns vs name v)
    (h : Q v L n) (hv : handedIn v = true := by with_unfolding_all rfl) : W C (getAttr (.ref x) name expr) L n Q := fun s hs =>
  get_own hs.fr ok.k (hs.inst hx hd) (co.get _ _) (co.dict _) (co.own _ _ ha.mem) rfl ((D.get name).trans (by rw [ha.look co.nd])) hv ⟨_, _, hs.toks _, h⟩
theorem setA_aux {s : Shared} {x dx Cl : Addr} {es : List DictEntry} {k b : Nat} {ns : List Str} {vs : Loc} {name : Str} {v : Value} {n' : Led} {Q : Unit → Shared → Prop} (ok : Ok C) (co : ClsOk Cl ns) (hs : Sta C L n s) (hx : (x, instObj Cl dx) ∈ n) (hd : (dx, dictOf es k) ∈ n) (D : Dct es ns vs b) (hb : b < 1000) (hm : name ∈ ns)
    (U : UpdL dx (dictOf es k) (dictOf (putL name (PyData.keyHash C.w.params name) (.str name (s.toks + 1)) v es) (putN name es k)) n n') (h : ∀ h', Sta C L n' { s with heap := h', toks := s.toks + 2 } → Q () { s with heap := h', toks := s.toks + 2 }) :
    wpAny (model P0 C.w) C.A (setAttr (.ref x) name v) Q C.E s :=
  set_dict hs.fr ok.k hs.nw (hs.inst hx hd) rfl (co.set _) (co.over _) (co.take _ _ hm) (co.dict _) (by rw [D.get]; rfl) rfl ((U.app C.hid).upd hs.nd)
    (Nat.le_trans (putL_len ..) (by have := D.len; omega)) fun h' F' N' => h h' ⟨F', N', by rw [(U.app C.hid).keys]; exact hs.nd, hs.gb, hs.os⟩
theorem W.setA {x dx Cl : Addr} {es : List DictEntry} {k b : Nat} {ns : List Str} {vs vs' : Loc} {name : Str} {v : Value} {N : Obj → Led} {Q : Unit → Loc → Led → Prop} (ok : Ok C) (co : ClsOk Cl ns) (hx : (x, instObj Cl dx) ∈ n) (hd : (dx, dictOf es k) ∈ n) (D : Dct es ns vs b) (hb : b < 1000) (ha : SetAt ns vs name v vs')
    (U : ∀ o', UpdL dx (dictOf es k) o' n (N o')) (h : ∀ es' k', Dct es' ns vs' (b + 1) → Q () L (N (dictOf es' k'))) : W C (setAttr (.ref x) name v) L n Q := fun s hs =>
  setA_aux ok co hs hx hd D hb ha.mem (U _) fun _ hs' => ⟨_, _, hs', h _ _ (D.put co.nd ha _ _)⟩
theorem W.setA' {x dx Cl : Addr} {es : List DictEntry} {k b : Nat} {ns : List Str} {vs vs' : Loc} {name : Str} {v u : Value} {N : Obj → Led} {Q : Unit → Loc → Led → Prop} (ok : Ok C) (co : ClsOk Cl ns) (hx : (x, instObj Cl dx) ∈ n) (hd : (dx, dictOf es k) ∈ n) (D : Dct es ns vs b) (hb : b < 1000) (hu : At ns vs name u) (ha : SetAt ns vs name v vs')
    (U : ∀ o', UpdL dx (dictOf es k) o' n (N o')) (h : ∀ es' k', Dct es' ns vs' b → Q () L (N (dictOf es' k'))) : W C (setAttr (.ref x) name v) L n Q := fun s hs =>
  setA_aux ok co hs hx hd D hb ha.mem (U _) fun _ hs' => ⟨_, _, hs', h _ _ (D.put' co.nd hu ha _ _)⟩
theorem W.attrN {y p attr pos env} (h : W C (eval (.Name y p) env) L n fun o L₁ n₁ => W C (getAttr o attr true) L₁ n₁ Q) : W C (eval (.Attribute (.Name y p) attr pos) env) L n Q := fun _ hs =>
  Attribute_name (lift1 h hs fun _ _ _ _ h₁ k₁ => k₁ _ h₁)
theorem W.assA {o attr p value pos env} (h : W C (eval value env) L n fun v L₁ n₁ => W C (eval o env) L₁ n₁ fun ov L₂ n₂ => W C (setAttr ov attr v) L₂ n₂ fun _ L₃ n₃ => QF .next L₃ n₃)
    (hs : swapsWith value (some (.Attribute o attr p)) pos.line env = Pure.pure false := by with_unfolding_all rfl) : W C (exec (.Assign [.Attribute o attr p] value pos) env) L n QF := fun _ hs' =>
  plainObj_wpAny_Assign_Attribute (lift1 h hs' fun _ _ _ _ h₁ k₁ => lift1 k₁ h₁ fun _ _ _ _ h₂ k₂ => lift1 k₂ h₂ fun _ _ _ _ h₃ k₃ => ⟨_, _, h₃, k₃⟩) hs
theorem W.augA {o attr p op value pos env} (h : W C (eval o env) L n fun ov L₁ n₁ => W C (getAttr ov attr true) L₁ n₁ fun old L₂ n₂ => W C (eval value env) L₂ n₂ fun v L₃ n₃ => W C (inplaceOp op old v) L₃ n₃ fun new L₄ n₄ => W C (setAttr ov attr new) L₄ n₄ fun _ L₅ n₅ => QF .next L₅ n₅) :
    W C (exec (.AugAssign (.Attribute o attr p) op value pos) env) L n QF := fun _ hs =>
  wpAny_AugAssign_AttributeAny (lift1 h hs fun _ _ _ _ h₁ k₁ => lift1 k₁ h₁ fun _ _ _ _ h₂ k₂ => lift1 k₂ h₂ fun _ _ _ _ h₃ k₃ => lift1 k₃ h₃ fun _ _ _ _ h₄ k₄ => lift1 k₄ h₄ fun _ _ _ _ h₅ k₅ => ⟨_, _, h₅, k₅⟩)
-- method calls
theorem W.mN {y p name apos args pos env} (h : ∀ pl, W C (eval (.Name y p) env) L n fun ov L₁ n₁ => W C (getMethod ov name pl) L₁ n₁ fun fx L₂ n₂ => W C (callWith pos fx.1 fx.2 (backTo pos (starEach args env)) []) L₂ n₂ Q)
    (hfew : methodCallForm (args.length + 0) (backTo pos (starEach args env)) [] = true := by with_unfolding_all rfl) (hline : (apos.endLine == pos.line) = true := by with_unfolding_all rfl) :
    W C (eval (.Call (.Attribute (.Name y p) name apos) args [] pos) env) L n Q := fun _ hs => by
  rw [arm_eval_Call]
  have e1 : attributeBase (.Name y p) name env (eval (.Name y p) env) = eval (.Name y p) env := rfl
  rw [e1]
  refine wpAny_bind (lift1 (h (do return (← importBound (.Name y p) env).getD true)) hs fun ov s₁ L₁ n₁ h₁ k₁ => wpAny_bind (wpAny_standAt ?_))
  unfold methodCall
  have e2 : methodCallForm (args.length + ([] : List Keyword).length) (backTo pos (starEach args env)) (backToKw pos (keywordEach [] env)) = true := hfew
  rw [e2]
  refine wpAny_bind (wpAny_holding ?_)
  unfold calleeOf
  rw [if_pos rfl]
  refine lift1 k₁ h₁ fun fx s₂ L₂ n₂ h₂ k₂ => ?_
  unfold methodCallPos
  obtain ⟨f, first⟩ := fx
  dsimp only
  rw [hline]
  show wpAny _ _ (Pure.pure pos >>= _) _ _ _
  exact wpAny_bind (wpAny_pure (k₂ _ h₂))
theorem W.mA {o a p name apos args pos env} (h : ∀ pl, W C (eval (.Attribute o a p) env) L n fun ov L₁ n₁ => W C (getMethod ov name pl) L₁ n₁ fun fx L₂ n₂ => W C (callWith pos fx.1 fx.2 (backTo pos (starEach args env)) []) L₂ n₂ Q)
    (hfew : methodCallForm (args.length + 0) (backTo pos (starEach args env)) [] = true := by with_unfolding_all rfl) (hline : (apos.endLine == pos.line) = true := by with_unfolding_all rfl) :
    W C (eval (.Call (.Attribute (.Attribute o a p) name apos) args [] pos) env) L n Q := fun _ hs => by
  rw [arm_eval_Call]
  have e1 : attributeBase (.Attribute o a p) name env (eval (.Attribute o a p) env) = eval (.Attribute o a p) env := rfl
  rw [e1]
  refine wpAny_bind (lift1 (h (do return (← importBound (.Attribute o a p) env).getD true)) hs fun ov s₁ L₁ n₁ h₁ k₁ => wpAny_bind (wpAny_standAt ?_))
  unfold methodCall
  have e2 : methodCallForm (args.length + ([] : List Keyword).length) (backTo pos (starEach args env)) (backToKw pos (keywordEach [] env)) = true := hfew
  rw [e2]
  refine wpAny_bind (wpAny_holding ?_)
  unfold calleeOf
  rw [if_pos rfl]
  refine lift1 k₁ h₁ fun fx s₂ L₂ n₂ h₂ k₂ => ?_
  unfold methodCallPos
  obtain ⟨f, first⟩ := fx
  dsimp only
  rw [hline]
  show wpAny _ _ (Pure.pure pos >>= _) _ _ _
  exact wpAny_bind (wpAny_pure (k₂ _ h₂))
theorem W.mC {c k p name apos args pos env} (h : ∀ pl, W C (eval (.Constant c k p) env) L n fun ov L₁ n₁ => W C (getMethod ov name pl) L₁ n₁ fun fx L₂ n₂ => W C (callWith pos fx.1 fx.2 (backTo pos (starEach args env)) []) L₂ n₂ Q)
    (hfew : methodCallForm (args.length + 0) (backTo pos (starEach args env)) [] = true := by with_unfolding_all rfl) (hline : (apos.endLine == pos.line) = true := by with_unfolding_all rfl) :
    W C (eval (.Call (.Attribute (.Constant c k p) name apos) args [] pos) env) L n Q := fun _ hs => by
  rw [arm_eval_Call]
  have e1 : attributeBase (.Constant c k p) name env (eval (.Constant c k p) env) = eval (.Constant c k p) env := rfl
  rw [e1]
  refine wpAny_bind (lift1 (h (do return (← importBound (.Constant c k p) env).getD true)) hs fun ov s₁ L₁ n₁ h₁ k₁ => wpAny_bind (wpAny_standAt ?_))
  unfold methodCall
  have e2 : methodCallForm (args.length + ([] : List Keyword).length) (backTo pos (starEach args env)) (backToKw pos (keywordEach [] env)) = true := hfew
  rw [e2]
  refine wpAny_bind (wpAny_holding ?_)
  unfold calleeOf
  rw [if_pos rfl]
  refine lift1 k₁ h₁ fun fx s₂ L₂ n₂ h₂ k₂ => ?_
  unfold methodCallPos
  obtain ⟨f, first⟩ := fx
  dsimp only
  rw [hline]
  show wpAny _ _ (Pure.pure pos >>= _) _ _ _
  exact wpAny_bind (wpAny_pure (k₂ _ h₂))
/-- a method of the class of an object -/
theorem W.getM {x dx Cl : Addr} {f : Addr} {es : List DictEntry} {k b : Nat} {ns : List Str} {vs : Loc} {name : Str} {pl : Sem Bool} {Q : Value × List Value → Loc → Led → Prop} (ok : Ok C) (co : ClsOk Cl ns) (hx : (x, instObj Cl dx) ∈ n) (hd : (dx, dictOf es k) ∈ n) (D : Dct es ns vs b)
    (hf : ∀ P, findIn (K P) (.ref Cl) name = some (some (.ref f))) (ht : ∀ P, isFn (K P) (.ref f) = true) (hl : look2 ns vs name = none) (h : Q (.ref f, [.ref x]) L n) : W C (getMethod (.ref x) name pl) L n Q := fun s hs =>
  method_inst hs.fr ok.k (hs.inst hx hd) (co.get _ _) (hf _) (ht _) ((D.get name).trans (by rw [hl])) ⟨_, _, hs, h⟩
end
end
-- MBlt
section
set_option autoImplicit false
section
variable {C : Cx} {L : Loc} {n : Led} {Q : Value → Loc → Led → Prop} {QF : Flow → Loc → Led → Prop} {QB : Bool → Loc → Led → Prop}
theorem Sta.of {s : Shared} {h' : Heap} {tk : Nat} {n' : Led} (hs : Sta C L n s) (F : Fr C.h₀ C.loc h' (look2 C.fn.ns L)) (N : News C.h₀ C.loc h' (n' ++ C.hid)) (nd : ((n' ++ C.hid).map (·.1)).Nodup) : Sta C L n' { s with heap := h', toks := tk } := ⟨F, N, nd, hs.gb, hs.os⟩
theorem Sta.push {s : Shared} (hs : Sta C L n s) (o : Obj) (hf : o.isFreed = false := by with_unfolding_all rfl) : Sta C L ((s.heap.objs.size, o) :: n) { s with heap := s.heap.push o } :=
  ⟨hs.fr.push o, hs.nw.push hs.fr o hf, by
    rw [List.cons_append, List.map_cons, List.nodup_cons]
    refine ⟨fun hm => ?_, hs.nd⟩
    obtain ⟨p, hp, e⟩ := List.mem_map.mp hm
    have := Heap.lt_size (hs.nw p hp).1
    exact absurd e (Nat.ne_of_lt this), hs.gb, hs.os⟩
theorem Sta.drop {s : Shared} {n' : Led} (hs : Sta C L n s) (h : n'.Sublist n) : Sta C L n' s := ⟨hs.fr, fun p hp => hs.nw p ((h.append_right C.hid).subset hp), ((h.append_right C.hid).map _).nodup hs.nd, hs.gb, hs.os⟩
theorem W.drop {α : Type} {t : Sem α} {n' : Led} {Q : α → Loc → Led → Prop} (h : n'.Sublist n) (k : W C t L n' Q) : W C t L n Q := fun s hs => k s (hs.drop h)
-- callees that are types and built-ins
theorem W.ct {T : String} {e rest pos env} (h : W C (spliced (backTo pos (starEach (e :: rest) env))) L n fun vs L₁ n₁ => W C (call (.type T) vs) L₁ n₁ Q)
    (he : starEach (e :: rest) env = (false, eval e env) :: starEach rest env := by with_unfolding_all rfl) (hp : (backTo pos (starEach rest env)).any (·.1) = false := by with_unfolding_all rfl) : W C (callWith pos (.type T) [] (backTo pos (starEach (e :: rest) env)) []) L n Q := fun _ hs =>
  PyProof.Rows.callWith_type1 (lift1 h hs fun _ _ _ _ h₁ k₁ => k₁ _ h₁) he hp
theorem W.ct0 {T : String} {pos env} (h : W C (call (.type T) []) L n Q) : W C (callWith pos (.type T) [] (backTo pos (starEach [] env)) []) L n Q := fun _ hs => PyProof.Rows.callWith_type0 (h _ hs)
theorem W.cb {id : String} {e rest pos env} (h : W C (spliced (backTo pos (starEach (e :: rest) env))) L n fun vs L₁ n₁ => W C (call (.builtin id) vs) L₁ n₁ Q)
    (he : starEach (e :: rest) env = (false, eval e env) :: starEach rest env := by with_unfolding_all rfl) (hp : (backTo pos (starEach rest env)).any (·.1) = false := by with_unfolding_all rfl) : W C (callWith pos (.builtin id) [] (backTo pos (starEach (e :: rest) env)) []) L n Q := fun _ hs => by
  rw [he]
  refine callWith_builtin (by show (false || (backTo pos (starEach rest env)).any (·.1)) = false; rw [hp]; rfl) (evalArgs_plain ?_)
  have h' := h
  rw [he] at h'
  exact lift1 h' hs fun _ _ _ _ h₁ k₁ => k₁ _ h₁
theorem W.cbm {id : String} {self : Value} {e rest pos env} (h : W C (spliced (backTo pos (starEach (e :: rest) env))) L n fun vs L₁ n₁ => W C (call (.builtin id) (self :: vs)) L₁ n₁ Q)
    (he : starEach (e :: rest) env = (false, eval e env) :: starEach rest env := by with_unfolding_all rfl) (hp : (backTo pos (starEach rest env)).any (·.1) = false := by with_unfolding_all rfl) : W C (callWith pos (.builtin id) [self] (backTo pos (starEach (e :: rest) env)) []) L n Q := fun _ hs => by
  rw [he]
  refine callWith_builtin (by show (false || (backTo pos (starEach rest env)).any (·.1)) = false; rw [hp]; rfl) (evalArgs_plain ?_)
  have h' := h
  rw [he] at h'
  exact lift1 h' hs fun _ _ _ _ h₁ k₁ => k₁ _ h₁
theorem W.cbm0 {id : String} {self : Value} {pos env} (h : W C (call (.builtin id) [self]) L n Q) : W C (callWith pos (.builtin id) [self] (backTo pos (starEach [] env)) []) L n Q := fun _ hs =>
  callWith_builtin rfl (evalArgs_nil3 (h _ hs))
theorem W.typeOf {v : Value} {T : String} (ht : ∀ s : Shared, s.TypeIs v T) (hn : (Value.type T == Value.type "builtin_function_or_method") = false) (h : Q (.type T) L n) : W C (call (.type "type") [v]) L n Q := fun s hs => call_type_of (ht s) hn ⟨_, _, hs, h⟩
theorem W.intInt {i t} (h : Q (.int i t) L n) : W C (call (.type "int") [.int i t]) L n Q := fun _ hs => call_int_int ⟨_, _, hs, h⟩
theorem W.len {x : Str} {t} (hx : x.length < 2 ^ 62) (h : ∀ t, Q (.int x.length t) L n) : W C (call (.builtin "len") [.str x t]) L n Q := fun _ hs => P.len_str (by omega) ⟨_, _, hs.toks _, h _⟩
theorem W.strInt {i t} (hi : i.natAbs.log2 < 1920) (h : ∀ t, Q (.str (Str.ofString (toString i)) t) L n) : W C (call (.type "str") [.int i t]) L n Q := fun _ hs => P.str_of_int hi ⟨_, _, hs.toks _, h _⟩
theorem W.isOther {a b : Value} (hp : plainIs a b = true) (hne : a ≠ b) (h : Q (.bool false) L n) : W C (compareOp .Is a b) L n Q := fun _ hs => wpAny_is_other hp hne ⟨_, _, hs, h⟩
theorem W.isNotOther {a b : Value} (hp : plainIs a b = true) (hne : a ≠ b) (h : Q (.bool true) L n) : W C (compareOp .IsNot a b) L n Q := fun _ hs => wpAny_isNot_other hp hne ⟨_, _, hs, h⟩
theorem W.isSelf {a : Value} (hp : plainIs a a = true) (h : Q (.bool true) L n) : W C (compareOp .Is a a) L n Q := fun _ hs => wpAny_is_self hp ⟨_, _, hs, h⟩
theorem W.isNotSelf {a : Value} (hp : plainIs a a = true) (h : Q (.bool false) L n) : W C (compareOp .IsNot a a) L n Q := fun _ hs => wpAny_isNot_self hp ⟨_, _, hs, h⟩
theorem W.trs {x : Str} {t} (hx : x.length < 2 ^ 62) (h : QB ((x.length : Int) != 0) L n) : W C (truthy (.str x t)) L n QB := fun _ hs => P.truthy_str (by omega) ⟨_, _, hs.toks _, h⟩
/-- the text that + makes, whatever road the machine takes -/
theorem str_add_nil {x y : Str} (h : (x.length == 0) = true) : x ++ y = y := by
  have : x = Str.empty := by
    cases x with
    | mk c => have : c.size = 0 := by simpa [Str.length] using h
              have : c = #[] := Array.eq_empty_of_size_eq_zero this
              rw [this]; rfl
  rw [this]; exact Str.empty_append y
theorem W.adds {x y : Str} {tx ty} (hl : x.length + y.length ≤ sizeLine) (h : ∀ t, Q (.str (x ++ y) t) L n) : W C (binaryOp .Add (.str x tx) (.str y ty)) L n Q := fun s hs => P.add_str (by
  by_cases h0 : (x.length == 0) = true
  · rw [if_pos h0]
    exact ⟨_, _, hs, by have := h ty; rw [str_add_nil h0] at this; exact this⟩
  · rw [if_neg h0]
    by_cases h1 : (y.length == 0) = true
    · rw [if_pos h1]
      refine ⟨_, _, hs, ?_⟩
      have e : x ++ y = x := by
        have hy : y = Str.empty := by
          cases y with
          | mk c => have : c.size = 0 := by simpa [Str.length] using h1
                    have : c = #[] := Array.eq_empty_of_size_eq_zero this
                    rw [this]; rfl
        rw [hy]
        cases x with
        | mk c => exact congrArg Str.mk (by simp [Str.empty])
      have := h tx; rw [e] at this; exact this
    · rw [if_neg h1]
      exact ⟨by rw [Str.length_append]; exact hl, _, _, hs.toks _, h _⟩)
theorem W.iadds {x y : Str} {tx ty} (hl : x.length + y.length ≤ sizeLine) (h : ∀ t, Q (.str (x ++ y) t) L n) : W C (inplaceOp .Add (.str x tx) (.str y ty)) L n Q := fun s hs => P.iadd_str (by
  by_cases h0 : (x.length == 0) = true
  · rw [if_pos h0]
    exact ⟨_, _, hs, by have := h ty; rw [str_add_nil h0] at this; exact this⟩
  · rw [if_neg h0]
    by_cases h1 : (y.length == 0) = true
    · rw [if_pos h1]
      refine ⟨_, _, hs, ?_⟩
      have e : x ++ y = x := by
        have hy : y = Str.empty := by
          cases y with
          | mk c => have : c.size = 0 := by simpa [Str.length] using h1
                    have : c = #[] := Array.eq_empty_of_size_eq_zero this
                    rw [this]; rfl
        rw [hy]
        cases x with
        | mk c => exact congrArg Str.mk (by simp [Str.empty])
      have := h tx; rw [e] at this; exact this
    · rw [if_neg h1]
      exact ⟨by rw [Str.length_append]; exact hl, _, _, hs.toks _, h _⟩)
-- displays
theorem W.list {elts pos env} (h : W C (spliced (backTo pos (starEach elts env))) L n fun vs L₁ n₁ => vs.length ≤ sizeLine ∧ ∀ a, Q (.ref a) L₁ ((a, listOf vs.toArray 0) :: n₁)) : W C (eval (.List elts pos) env) L n Q := fun _ hs =>
  wpAny_List_spliced (lift1 h hs fun _ _ _ _ h₁ k₁ => ⟨k₁.1, _, _, h₁.push _, k₁.2 _⟩)
noncomputable abbrev tupOf (vs : List Value) : Obj := { cls := .type "tuple", data := .seq vs.toArray }
theorem W.tuple {elts x1 pos env} (h : W C (spliced (backTo pos (starEach elts env))) L n fun vs L₁ n₁ => vs.length ≤ sizeLine ∧ ∀ a, Q (.ref a) L₁ ((a, tupOf vs) :: n₁)) : W C (eval (.Tuple elts x1 pos) env) L n Q := fun _ hs =>
  wpAny_Tuple_spliced (lift1 h hs fun _ _ _ _ h₁ k₁ => ⟨k₁.1, _, _, h₁.push _, k₁.2 _⟩)
-- subscripts
theorem W.subs {value slice pos env} (h : W C (eval value env) L n fun o L₁ n₁ => W C (eval slice env) L₁ n₁ fun i L₂ n₂ => W C (subscriptTail value slice o i) L₂ n₂ Q) : W C (eval (.Subscript value slice pos) env) L n Q := fun _ hs =>
  Subscript_ (lift1 h hs fun _ _ _ _ h₁ k₁ => lift1 k₁ h₁ fun _ _ _ _ h₂ k₂ => k₂ _ h₂)
theorem W.slSS {value lo hi p pos env} (h : W C (eval value env) L n fun o L₁ n₁ => W C (eval lo env) L₁ n₁ fun a L₂ n₂ => W C (eval hi env) L₂ n₂ fun b L₃ n₃ =>
      ∃ x t i ui j uj, o = .str x t ∧ a = .int i ui ∧ b = .int j uj ∧ x.length ≤ sizeLine ∧ ∀ t', Q (.str (Txt.slice x (some i) (some j)) t') L₃ n₃)
    (hs : ∀ x t a, subscripted (.Slice (some lo) (some hi) none p) false (.str x t) (.ref a) = operate [.ref a, .str x t] (getItem (.str x t) (.ref a)) := by intro _ _ _; with_unfolding_all rfl) (ht : ∀ x t r, letTemporaryGo value (.str x t) r = Pure.pure () := by intro _ _ _; with_unfolding_all rfl) :
    W C (eval (.Subscript value (.Slice (some lo) (some hi) none p) pos) env) L n Q := fun s hs' =>
  Subscript_ (lift1 h hs' fun o s₁ L₁ n₁ h₁ k₁ => wpAny_Slice (wpAny_evalPart_some (lift1 k₁ h₁ fun a s₂ L₂ n₂ h₂ k₂ => wpAny_evalPart_some (lift1 k₂ h₂ fun b s₃ L₃ n₃ h₃ k₃ => wpAny_evalPart_none (by
    obtain ⟨x, t, i, ui, j, uj, rfl, rfl, rfl, hz, k⟩ := k₃
    exact slice_strN_ss h₃.fr h₃.nw (fun h' t' tk F N => ⟨_, _, h₃.of F N h₃.nd, k _⟩) (hs _ _ _) (ht _ _) hz)))))
theorem W.slSN {value lo p pos env} (h : W C (eval value env) L n fun o L₁ n₁ => W C (eval lo env) L₁ n₁ fun a L₂ n₂ =>
      ∃ x t i ui, o = .str x t ∧ a = .int i ui ∧ x.length ≤ sizeLine ∧ ∀ t', Q (.str (Txt.slice x (some i) none) t') L₂ n₂)
    (hs : ∀ x t a, subscripted (.Slice (some lo) none none p) false (.str x t) (.ref a) = operate [.ref a, .str x t] (getItem (.str x t) (.ref a)) := by intro _ _ _; with_unfolding_all rfl) (ht : ∀ x t r, letTemporaryGo value (.str x t) r = Pure.pure () := by intro _ _ _; with_unfolding_all rfl) :
    W C (eval (.Subscript value (.Slice (some lo) none none p) pos) env) L n Q := fun s hs' =>
  Subscript_ (lift1 h hs' fun o s₁ L₁ n₁ h₁ k₁ => wpAny_Slice (wpAny_evalPart_some (lift1 k₁ h₁ fun a s₂ L₂ n₂ h₂ k₂ => wpAny_evalPart_none (wpAny_evalPart_none (by
    obtain ⟨x, t, i, ui, rfl, rfl, hz, k⟩ := k₂
    exact slice_strN_sn h₂.fr h₂.nw (fun h' t' tk F N => ⟨_, _, h₂.of F N h₂.nd, k _⟩) (hs _ _ _) (ht _ _) hz)))))
theorem Sta.isTup {s : Shared} {a : Addr} {vs : List Value} (hs : Sta C L n s) (h : (a, tupOf vs) ∈ n) : IsTup s.heap a vs.toArray := ⟨_, (hs.nw _ (List.mem_append_left _ h)).1, rfl, _, rfl⟩
theorem W.inTup {a : Addr} {vs : List Value} {ys : List Str} {x : Str} {u} (h : (a, tupOf vs) ∈ n) (hi : StrsAre vs ys) (k : Q (.bool (ys.any (· == x))) L n) : W C (compareOp .In (.str x u) (.ref a)) L n Q := fun s hs =>
  in_tuple_strs (hs.isTup h) (by simpa using hi) ⟨_, _, hs, k⟩
theorem W.expr {e pos} (h : W C (eval e C.env) L n fun _ L₁ n₁ => QF .next L₁ n₁) (hi : interactive C.env = false) (hs : swapsWith e none pos.line C.env = Pure.pure false := by with_unfolding_all rfl) : W C (exec (.Expr e pos) C.env) L n QF := fun _ hs' =>
  wpAny_Expr_any (lift1 h hs' fun _ _ _ _ h₁ k₁ => ⟨_, _, h₁, k₁⟩) hi hs
end
end
-- MCallK
section
set_option autoImplicit false
theorem look2_map {ns : List Str} (f : Str → Option Value) (x : Str) : look2 ns (ns.map f) x = if x ∈ ns then f x else none := by
  induction ns with
  | nil => simp [look2]
  | cons y ns ih =>
    rw [List.map_cons, look2, ih]
    by_cases h : x = y
    · subst h; simp
    · simp [h]
theorem look2_binds {ns : List Str} {binds : List (Str × Value)} (hk : ∀ y ∈ binds, y.1 ∈ ns) : look2 ns (ns.map fun x => binds.reverse.lookup x) = fun x => binds.reverse.lookup x := by
  funext x
  rw [look2_map]
  by_cases h : x ∈ ns
  · rw [if_pos h]
  · rw [if_neg h]
    cases q : binds.reverse.lookup x with
    | none => rfl
    | some v =>
      exfalso
      obtain ⟨l1, l2, e, _⟩ := List.lookup_eq_some_iff.mp q
      have : (x, v) ∈ binds.reverse := by rw [e]; simp
      exact h (hk _ (List.mem_reverse.mp this))
section
variable {C : Cx} {L : Loc} {n : Led} {Q : Value → Loc → Led → Prop}
theorem W.cfk {f : Fn} {body : List Stmt} {args : List Value} {kw : List (Str × Value)} (binds : List (Str × Value)) (Lb : Loc) (ok : Ok C) (fo : FnOk f body) (hroom : C.A.depth < recursionLimit)
    (hb : ∀ P S, peek (K P) S (bindArgs f.fd ⟨args, kw⟩) = some binds) (hk : (binds.map (·.1)).all (fun x => f.ns.contains x) = true) (hLb : (f.ns.map fun x => binds.reverse.lookup x) = Lb)
    (h : ∀ C' : Cx, Ok C' → C'.fn = f → C'.w = C.w → (C'.A.depth = C.A.depth + 1 ∧ C'.A.units = C.A.units + 3) → (C'.E = fun _ _ => False) → W C' (execs body C'.env) Lb n fun fl _ n' => Q (retOf fl) L n') :
    W C (call (.ref f.fa) args kw) L n Q := by
  subst hLb
  have hk' : ∀ y ∈ binds, y.1 ∈ f.ns := fun y hy => by
    have := List.all_eq_true.mp hk y.1 (List.mem_map_of_mem hy)
    simpa using this
  exact W.callfn ok fo hroom (fun s hs => kp_binds (ok.k.keeps hs.fr.keep) fun S => hb _ S) hk' (look2_binds hk') h
end
end
-- MX
section
set_option autoImplicit false
section
variable {C : Cx} {L : Loc} {n : Led} {Q : Value → Loc → Led → Prop} {QF : Flow → Loc → Led → Prop} {QB : Bool → Loc → Led → Prop}
theorem Ok.inter (ok : Ok C) : interactive C.env = false := by
  show (C.env.scope.kind == .module && _) = false
  rw [ok.kind]; rfl
theorem W.ex {e pos} (ok : Ok C) (h : W C (eval e C.env) L n fun _ L₁ n₁ => QF .next L₁ n₁) (hs : swapsWith e none pos.line C.env = Pure.pure false := by with_unfolding_all rfl) : W C (exec (.Expr e pos) C.env) L n QF := W.expr h ok.inter hs
theorem UpdL.mem' {d o o' n n'} (u : UpdL d o o' n n') : (d, o') ∈ n' := by
  induction u with
  | here => exact .head _
  | there _ ih => exact .tail _ ih
theorem UpdL.keep {d o o' n n' p} (u : UpdL d o o' n n') (hp : p ∈ n) (hne : p.2 ≠ o) : p ∈ n' := by
  induction u with
  | here =>
    cases hp with
    | head => exact absurd rfl hne
    | tail _ h => exact .tail _ h
  | there _ ih =>
    cases hp with
    | head => exact .head _
    | tail _ h => exact .tail _ (ih h)
theorem inst_ne {Cl dx : Addr} {es : List DictEntry} {k : Nat} : instObj Cl dx ≠ dictOf es k := fun e => by cases congrArg Obj.cls e
theorem UpdL.inst {d es k o' n n' x Cl dx} (u : UpdL d (dictOf es k) o' n n') (hx : (x, instObj Cl dx) ∈ n) : (x, instObj Cl dx) ∈ n' := u.keep hx inst_ne
end
end
-- MIt
section
set_option autoImplicit false
/-- the same place, but for a part of the ledger that is put out of sight -/
structure Hid (C C' : Cx) : Prop where
  w : C'.w = C.w
  A : C'.A = C.A
  E : C'.E = C.E
  env : C'.env = C.env
  fn : C'.fn = C.fn
noncomputable def Cx.hide (C : Cx) (p : Led) : Cx := { C with hid := p ++ C.hid }
theorem Cx.hide_hid (C : Cx) (p : Led) : Hid C (C.hide p) := ⟨rfl, rfl, rfl, rfl, rfl⟩
theorem Ok.hide {C : Cx} (ok : Ok C) (p : Led) : Ok (C.hide p) := ⟨ok.k, ok.g, ok.b, ok.gt, ok.bt, ok.lim, ok.dig, ok.bm, ok.hh, ok.gl, ok.bl, ok.kind, ok.locs, ok.gls, ok.nd⟩
theorem perm3 (p n h : Led) : (n ++ (p ++ h)).Perm ((p ++ n) ++ h) := by
  rw [← List.append_assoc]
  exact List.Perm.append_right _ List.perm_append_comm
section
variable {α : Type} {C : Cx} {L : Loc} {n : Led} {Q : Value → Loc → Led → Prop} {QF : Flow → Loc → Led → Prop} {QB : Bool → Loc → Led → Prop}
theorem Sta.hide {s : Shared} {p : Led} (hs : Sta C L (p ++ n) s) : Sta (C.hide p) L n s :=
  ⟨hs.fr, fun x hx => hs.nw x ((perm3 p n C.hid).mem_iff.mp hx), ((perm3 p n C.hid).map _).nodup_iff.mpr hs.nd, hs.gb, hs.os⟩
theorem Sta.show {s : Shared} {p : Led} (hs : Sta (C.hide p) L n s) : Sta C L (p ++ n) s :=
  ⟨hs.fr, fun x hx => hs.nw x ((perm3 p n C.hid).mem_iff.mpr hx), ((perm3 p n C.hid).map _).nodup_iff.mp hs.nd, hs.gb, hs.os⟩
theorem W.frame {t : Sem α} {p : Led} {Q : α → Loc → Led → Prop} (h : W (C.hide p) t L n fun v L' n' => Q v L' (p ++ n')) : W C t L (p ++ n) Q := fun s hs =>
  wpAny_mono (h s hs.hide) (fun _ _ ⟨L', n', h', q⟩ => ⟨L', p ++ n', h'.show, q⟩) fun _ _ e => e
/-- the ledger in another order, or less of it -/
theorem Sta.perm {s : Shared} {n' : Led} (hs : Sta C L n s) (h : n'.Perm n) : Sta C L n' s :=
  ⟨hs.fr, fun x hx => hs.nw x ((h.append_right C.hid).mem_iff.mp hx), ((h.append_right C.hid).map _).nodup_iff.mpr hs.nd, hs.gb, hs.os⟩
theorem W.perm {t : Sem α} {n' : Led} {Q : α → Loc → Led → Prop} (h : n'.Perm n) (k : W C t L n' Q) : W C t L n Q := fun s hs => k s (hs.perm h)
theorem Sta.mem {s : Shared} {p : Addr × Obj} (hs : Sta C L n s) (h : p ∈ n) : s.heap.get? p.1 = some p.2 := (hs.nw p (List.mem_append_left _ h)).1
/-- one object of the ledger is changed -/
theorem Sta.chg {s : Shared} {h' : Heap} {tk : Nat} {I : Addr} {o o' : Obj} {n' : Led} (hs : Sta C L n s) (U : UpdL I o o' n n') (ho : h'.get? I = some o') (hk : ∀ b x, b ≠ I → s.heap.get? b = some x → h'.get? b = some x) : Sta C L n' { s with heap := h', toks := tk } := by
  have hm := hs.nw _ (List.mem_append_left C.hid U.mem)
  obtain ⟨oL, es, ep, hL, r⟩ := hs.fr.ns
  refine ⟨⟨⟨oL, es, ep, hk _ _ (fun e => hm.2.1 e.symm) hL, r⟩, fun b x e => hk b x (fun q => ?_) (hs.fr.keep b x e), hs.fr.above⟩, fun p hp => ?_, by rw [(U.app C.hid).keys]; exact hs.nd, hs.gb, hs.os⟩
  · rw [q] at e; rw [hm.2.2] at e; cases e
  · have key : p = (I, o') ∨ (p ∈ n ++ C.hid ∧ p.1 ≠ I) := by
      have U' := U.app C.hid
      have nd := hs.nd
      generalize n ++ C.hid = a at U' nd
      generalize n' ++ C.hid = b at U' hp
      clear hm hs U
      induction U' with
      | here =>
        rw [List.map_cons, List.nodup_cons] at nd
        cases hp with
        | head => exact .inl rfl
        | tail _ h => exact .inr ⟨.tail _ h, fun e => nd.1 (List.mem_map.mpr ⟨_, h, e⟩)⟩
      | there u ih =>
        rw [List.map_cons, List.nodup_cons] at nd
        cases hp with
        | head => exact .inr ⟨.head _, fun e => nd.1 (List.mem_map.mpr ⟨_, u.mem, e.symm⟩)⟩
        | tail _ h => rcases ih nd.2 h with h | h
                      · exact .inl h
                      · exact .inr ⟨.tail _ h.1, h.2⟩
    rcases key with rfl | ⟨h1, h2⟩
    · exact ⟨ho, hm.2⟩
    · exact ⟨hk _ _ h2 (hs.nw p h1).1, (hs.nw p h1).2⟩
/-- one object of the ledger is lost -/
theorem Sta.lose {s : Shared} {h' : Heap} {tk : Nat} {I : Addr} {o : Obj} (hs : Sta C L ((I, o) :: n) s) (hk : ∀ b x, b ≠ I → s.heap.get? b = some x → h'.get? b = some x) : Sta C L n { s with heap := h', toks := tk } := by
  have hm := hs.nw _ (List.mem_append_left C.hid (List.Mem.head _))
  have nd := hs.nd
  rw [List.cons_append, List.map_cons, List.nodup_cons] at nd
  obtain ⟨oL, es, ep, hL, r⟩ := hs.fr.ns
  refine ⟨⟨⟨oL, es, ep, hk _ _ (fun e => hm.2.1 e.symm) hL, r⟩, fun b x e => hk b x (fun q => ?_) (hs.fr.keep b x e), hs.fr.above⟩, fun p hp => ⟨hk _ _ (fun e => nd.1 (List.mem_map.mpr ⟨_, hp, e⟩)) (hs.nw p (.tail _ hp)).1, (hs.nw p (.tail _ hp)).2⟩, nd.2, hs.gb, hs.os⟩
  rw [q] at e; rw [hm.2.2] at e; cases e
/-- more is there than before -/
theorem Sta.keeps {s : Shared} {h' : Heap} {tk : Nat} (hs : Sta C L n s) (hk : ∀ b x, s.heap.get? b = some x → h'.get? b = some x) : Sta C L n { s with heap := h', toks := tk } := by
  obtain ⟨oL, es, ep, hL, r⟩ := hs.fr.ns
  exact ⟨⟨⟨oL, es, ep, hk _ _ hL, r⟩, fun b x e => hk b x (hs.fr.keep b x e), hs.fr.above⟩, fun p hp => ⟨hk _ _ (hs.nw p hp).1, (hs.nw p hp).2⟩, hs.nd, hs.gb, hs.os⟩
-- while
noncomputable def LoopQ (J : Loc → Led → Prop) (QF : Flow → Loc → Led → Prop) : Flow → Loc → Led → Prop
  | .next, L, n => J L n
  | .cont, L, n => J L n
  | .brk, L, n => QF .next L n
  | .ret v, L, n => QF (.ret v) L n
theorem W.whileI {test body pos} (hE : C.E = fun _ _ => False) (J : Nat → Loc → Led → Prop) (k₀ : Nat) (hJ : J k₀ L n)
    (turn : ∀ k L₁ n₁, J k L₁ n₁ → W C (isTrue test C.env (eval test C.env)) L₁ n₁ fun b L₂ n₂ => if b then W C (execs body C.env) L₂ n₂ (LoopQ (fun L n => ∃ m, m < k ∧ J m L n) QF) else QF .next L₂ n₂) :
    W C (exec (.While test body [] pos) C.env) L n QF := fun s hs => by
  refine wpAny_While (codeAny_whileLoop (fun k s' => ∃ L' n', Sta C L' n' s' ∧ J k L' n') ?_ k₀ ⟨L, n, hs, hJ⟩)
  rintro k s' ⟨L₁, n₁, h₁, j₁⟩
  refine wpAny_mono (turn k L₁ n₁ j₁ s' h₁) (fun b s₂ ⟨L₂, n₂, h₂, q₂⟩ => ?_) fun _ _ e => by rw [hE] at e; exact e.elim
  cases b with
  | false => exact wpAny_execs_nil ⟨L₂, n₂, h₂, q₂⟩
  | true =>
    refine wpAny_mono (q₂ s₂ h₂) (fun f s₃ ⟨L₃, n₃, h₃, q₃⟩ => ?_) fun _ _ e => by rw [hE] at e; exact e.elim
    cases f with
    | next => obtain ⟨m, hm, j⟩ := q₃; exact ⟨m, hm, _, _, h₃, j⟩
    | cont => obtain ⟨m, hm, j⟩ := q₃; exact ⟨m, hm, _, _, h₃, j⟩
    | brk => exact ⟨_, _, h₃, q₃⟩
    | ret v => exact ⟨_, _, h₃, q₃⟩
/-- an iterator that owns a part of the ledger -/
structure Iter (C : Cx) (I : Addr) (k : Nat) (P : Nat → Value → Led → Prop) (own : Nat → Led → Prop) (foot : Led → Prop) : Prop where
  item : ∀ {i L n p} {Q : Option Value → Loc → Led → Prop}, i < k → own i p → foot n → (∀ v p' q, P i v q → own (i + 1) p' → Q (some v) L (p' ++ (q ++ n))) → W C (pyNext (.ref I)) L (p ++ n) Q
  done : ∀ {L n p} {Q : Option Value → Loc → Led → Prop}, own k p → foot n → Q none L n → W C (pyNext (.ref I)) L (p ++ n) Q
  letgo : ∀ {i L n p v q target} {Q : Unit → Loc → Led → Prop}, own (i + 1) p → P i v q → (∀ p', own (i + 1) p' → Q () L (p' ++ n)) → W C (letOwnedTupleGo target (.ref I) v) L (p ++ n) Q
  mono : ∀ {n n' : Led}, (∀ p ∈ n, p ∈ n') → foot n → foot n'
  self : ∀ {i L n p} {Q : Value → Loc → Led → Prop}, own i p → foot n → Q (.ref I) L (p ++ n) → W C (pyIter (.ref I)) L (p ++ n) Q
theorem W.forI {target iter body orelse pos} (ok : Ok C) (hE : C.E = fun _ _ => False)
    (h : W C (eval iter C.env) L n fun x L₁ n₁ => W C (pyIter x) L₁ n₁ fun it L₂ n₂ =>
      ∃ (I : Addr) (k : Nat) (P : Nat → Value → Led → Prop) (own : Nat → Led → Prop) (foot : Led → Prop) (J : Nat → Loc → Led → Prop) (p n₃ : Led),
        it = .ref I ∧ n₂ = p ++ n₃ ∧ Iter C I k P own foot ∧ own 0 p ∧ J 0 L₂ n₃ ∧ (∀ i L n, J i L n → foot n) ∧ (∀ L n, J k L n → W C (execs orelse C.env) L n QF) ∧
        ∀ C', Hid C C' → Ok C' → ∀ i v q L₄ n₄, i < k → P i v q → J i L₄ n₄ → W C' (assign target C'.env v) L₄ (q ++ n₄) fun _ L₅ n₅ => W C' (execs body C'.env) L₅ n₅ (LoopQ (J (i + 1)) QF))
    (hf : ∀ x, foldedSetIterable iter C.env x = Pure.pure x := by intro _; with_unfolding_all rfl) : W C (exec (.For target iter body orelse pos) C.env) L n QF := fun s hs => by
  refine wpAny_For (lift1 h hs fun x s₁ L₁ n₁ h₁ q₁ => lift1 q₁ h₁ fun it s₂ L₂ n₂ h₂ q₂ => ?_) hf
  obtain ⟨I, k, P, own, foot, J, p, n₃, rfl, rfl, Z, hp, hJ, hft, hend, hturn⟩ := q₂
  refine codeAny_forLoop_any (fun m s' => ∃ i L' n' p', m = k - i ∧ i ≤ k ∧ own i p' ∧ Sta C L' (p' ++ n') s' ∧ J i L' n') ?_ k ⟨0, L₂, n₃, p, rfl, Nat.zero_le _, hp, h₂, hJ⟩
  rintro m s' ⟨i, L', n', p', rfl, hik, hp', h', j'⟩
  have noE : ∀ (v : Value) (s : Shared), C.E v s → notedBy (model P0 C.w) C.A C.env (fun e s' => cameBackBy (model P0 C.w) C.A C.env C.E e s') v s := fun _ _ e => by rw [hE] at e; exact e.elim
  by_cases hlt : i < k
  · refine wpAny_mono (Z.item (Q := fun r L₄ n₄ => ∃ v p₅ q, r = some v ∧ P i v q ∧ own (i + 1) p₅ ∧ L₄ = L' ∧ n₄ = p₅ ++ (q ++ n')) hlt hp' (hft _ _ _ j') (fun v p₅ q hP ho => ⟨v, p₅, q, rfl, hP, ho, rfl, rfl⟩) s' h') (fun r s₄ hr => ?_) noE
    obtain ⟨L₄, n₄, h₄, v, p₅, q, rfl, hP, ho, e1, e2⟩ := hr
    subst L₄; subst n₄
    refine wpAny_mono (Z.letgo (Q := fun _ L₅ n₅ => ∃ p₆, own (i + 1) p₆ ∧ L₅ = L' ∧ n₅ = p₆ ++ (q ++ n')) ho hP (fun p₆ h6 => ⟨p₆, h6, rfl, rfl⟩) s₄ h₄) (fun _ s₅ hr => ?_) noE
    obtain ⟨L₅, n₅, h₅, p₆, h6, e1, e2⟩ := hr
    subst L₅; subst n₅
    have T := hturn (C.hide p₆) (C.hide_hid _) (ok.hide _) i v q L' n' hlt hP j' s₅ h₅.hide
    refine wpAny_mono T (fun _ s₆ ⟨L₆, n₆, h₆, q₆⟩ => wpAny_mono (q₆ s₆ h₆) (fun f s₇ ⟨L₇, n₇, h₇, q₇⟩ => ?_) noE) noE
    cases f with
    | next => exact ⟨k - (i + 1), by omega, i + 1, L₇, n₇, p₆, rfl, hlt, h6, h₇.show, q₇⟩
    | cont => exact ⟨k - (i + 1), by omega, i + 1, L₇, n₇, p₆, rfl, hlt, h6, h₇.show, q₇⟩
    | brk => exact ⟨_, _, h₇.show.drop (List.sublist_append_right _ _), q₇⟩
    | ret v => exact ⟨_, _, h₇.show.drop (List.sublist_append_right _ _), q₇⟩
  · have e : i = k := by omega
    subst e
    refine wpAny_mono (Z.done (Q := fun r L₄ n₄ => r = none ∧ L₄ = L' ∧ n₄ = n') hp' (hft _ _ _ j') ⟨rfl, rfl, rfl⟩ s' h') (fun r s₄ hr => ?_) noE
    obtain ⟨L₄, n₄, h₄, rfl, e1, e2⟩ := hr
    subst L₄; subst n₄
    exact wpAny_mono (hend _ _ j' s₄ h₄) (fun _ _ q => q) noE
end
end
-- MIt2
section
set_option autoImplicit false
noncomputable def Has (C : Cx) (n : Led) (a : Addr) (o : Obj) : Prop := (a, o) ∈ n ∨ (K C.w.params).lookup a = some o
section
variable {C : Cx} {L : Loc} {n : Led} {Q : Value → Loc → Led → Prop} {QF : Flow → Loc → Led → Prop} {QB : Bool → Loc → Led → Prop}
theorem Has.get {s : Shared} {a : Addr} {o : Obj} (h : Has C n a o) (ok : Ok C) (hs : Sta C L n s) : s.heap.get? a = some o := by
  rcases h with h | h
  · exact hs.mem h
  · exact hs.fr.keep _ _ (ok.k _ _ h)
theorem Has.cons {p : Addr × Obj} {a : Addr} {o : Obj} (h : Has C n a o) : Has C (p :: n) a o := h.imp (fun h => .tail _ h) fun h => h
theorem Has.ne {s : Shared} {a I : Addr} {o oI : Obj} (h : Has C n a o) (ok : Ok C) (hs : Sta C L ((I, oI) :: n) s) : a ≠ I := by
  rcases h with h | h
  · have nd := hs.nd
    rw [List.cons_append, List.map_cons, List.nodup_cons] at nd
    exact fun e => nd.1 (List.mem_map.mpr ⟨_, List.mem_append_left _ h, e⟩)
  · intro e
    have := (hs.nw (I, oI) (List.mem_append_left _ (.head _))).2.2
    rw [← e, ok.k _ _ h] at this; cases this
theorem Iter.ofWalks {I : Addr} {fp : List Addr} {k : Nat} {P : Nat → Value → Prop} {St : Nat → Heap → Prop} (Z : Walks P0 C.w C.A I fp [I] k P St) (ob : Nat → Obj → Prop) (foot : Led → Prop) (hmono : ∀ {n n' : Led}, (∀ p ∈ n, p ∈ n') → foot n → foot n')
    (hin : ∀ {i o s L n}, ob i o → foot n → Sta C L ((I, o) :: n) s → St i s.heap) (hout : ∀ {i h}, St i h → ∃ o, h.get? I = some o ∧ ob i o)
    (hlet : ∀ {i o s target v} {Q : Unit → Shared → Prop} {E : Value → Shared → Prop}, ob (i + 1) o → P i v → s.heap.get? I = some o → Q () s → wpAny (model P0 C.w) C.A (letOwnedTupleGo target (.ref I) v) Q E s) :
    Iter C I k (fun i v q => q = [] ∧ P i v) (fun i p => ∃ o, p = [(I, o)] ∧ ob i o) foot where
  item := fun {i L n p Q} hi hp hf h s hs => by
    obtain ⟨o, rfl, ho⟩ := hp
    refine Z.item i s _ _ hi (hin ho hf hs) fun v h' tk hP hst hk => ?_
    obtain ⟨o', ho', hob⟩ := hout hst
    exact ⟨L, _, hs.chg .here ho' fun b x hb e => hk b x (by simpa using hb) e, h v [(I, o')] [] ⟨rfl, hP⟩ ⟨o', rfl, hob⟩⟩
  done := fun {L n p Q} hp hf h s hs => by
    obtain ⟨o, rfl, ho⟩ := hp
    exact Z.done s _ _ (hin ho hf hs) fun h' tk hk => ⟨L, n, hs.lose fun b x hb e => hk b x (by simpa using hb) e, h⟩
  letgo := fun {i L n p v q target Q} hp hP h s hs => by
    obtain ⟨o, rfl, ho⟩ := hp
    exact hlet ho hP.2 (hs.mem (.head _)) ⟨L, _, hs, h _ ⟨o, rfl, ho⟩⟩
  mono := hmono
  self := fun {i L n p Q} hp hf h s hs => by
    obtain ⟨o, rfl, ho⟩ := hp
    exact Z.self i s _ _ (hin ho hf hs) ⟨L, _, hs, h⟩
noncomputable def isIt (T : String) (x : Value) (i : Nat) (o : Obj) : Prop := o.cls = .type T ∧ o.data = .fields #[x, .int i 0]
-- lists
theorem Iter.list {I l : Addr} {xs : Array Value} {kk : Nat} (ok : Ok C) (hne : l ≠ I) :
    Iter C I xs.size (fun i v q => q = [] ∧ xs[i]? = some v) (fun i p => ∃ o, p = [(I, o)] ∧ isIt "list_iterator" (.ref l) i o) (fun n => (l, listOf xs kk) ∈ n) :=
  Iter.ofWalks (Walks.list ok.hh I l hne xs) _ _ (fun h x => h _ x) (fun ho hf hs => ⟨⟨_, hs.mem (.head _), ho⟩, ⟨_, hs.mem (.tail _ hf), rfl, _, rfl⟩⟩) (fun st => let ⟨⟨o, h1, h2⟩, _⟩ := st; ⟨o, h1, h2⟩)
    fun ho _ hg q => letGo_listiter ⟨_, hg, ho⟩ q
theorem W.iterL {l : Addr} {xs : Array Value} {kk : Nat} (ok : Ok C) (hl : (l, listOf xs kk) ∈ n)
    (h : ∀ I o, isIt "list_iterator" (.ref l) 0 o → Iter C I xs.size (fun i v q => q = [] ∧ xs[i]? = some v) (fun i p => ∃ o, p = [(I, o)] ∧ isIt "list_iterator" (.ref l) i o) (fun n => (l, listOf xs kk) ∈ n) → Q (.ref I) L ([(I, o)] ++ n)) : W C (pyIter (.ref l)) L n Q := fun s hs =>
  wpAny_pyIter_list ⟨_, hs.mem hl, rfl, _, rfl⟩ ⟨L, _, hs.push _, h _ _ ⟨rfl, rfl⟩ (Iter.list ok (Nat.ne_of_lt (Heap.lt_size (hs.mem hl))))⟩
-- tuples
noncomputable def isTupO (o : Obj) (xs : Array Value) : Prop := o.cls = .type "tuple" ∧ ∃ m, o.data = .seq xs m
theorem Iter.tuple {I l : Addr} {ol : Obj} {xs : Array Value} (ok : Ok C) (hne : l ≠ I) (ht : isTupO ol xs) :
    Iter C I xs.size (fun i v q => q = [] ∧ xs[i]? = some v) (fun i p => ∃ o, p = [(I, o)] ∧ isIt "tuple_iterator" (.ref l) i o) (fun n => Has C n l ol) :=
  Iter.ofWalks (Walks.tuple ok.hh I l hne xs) _ _ (fun h x => x.imp (fun x => h _ x) fun x => x) (fun ho hf hs => ⟨⟨_, hs.mem (.head _), ho⟩, ⟨_, hf.cons.get ok hs, ht⟩⟩) (fun st => let ⟨⟨o, h1, h2⟩, _⟩ := st; ⟨o, h1, h2⟩)
    fun ho _ hg q => letGo_tupleiter ⟨_, hg, ho⟩ q
theorem W.iterT {l : Addr} {ol : Obj} {xs : Array Value} (ok : Ok C) (hl : Has C n l ol) (ht : isTupO ol xs)
    (h : ∀ I o, isIt "tuple_iterator" (.ref l) 0 o → Iter C I xs.size (fun i v q => q = [] ∧ xs[i]? = some v) (fun i p => ∃ o, p = [(I, o)] ∧ isIt "tuple_iterator" (.ref l) i o) (fun n => Has C n l ol) → Q (.ref I) L ([(I, o)] ++ n)) : W C (pyIter (.ref l)) L n Q := fun s hs =>
  wpAny_pyIter_tuple ⟨_, hl.get ok hs, ht⟩ ⟨L, _, hs.push _, h _ _ ⟨rfl, rfl⟩ (Iter.tuple ok (Nat.ne_of_lt (Heap.lt_size (hl.get ok hs))) ht)⟩
-- ranges
theorem Iter.range {I : Addr} {a c : Int} {k : Nat} (ok : Ok C) :
    Iter C I k (fun i v q => q = [] ∧ ∃ t, v = .int (a + i * c) t) (fun i p => ∃ o, p = [(I, o)] ∧ o = { cls := .type "range_iterator", dict := none, data := .fields #[rawInt (a + (i : Nat) * c), rawInt ((k : Int) - (i : Nat)), rawInt c], slots := #[] }) (fun _ => True) :=
  Iter.ofWalks (Walks.range ok.hh I a c k) _ _ (fun _ x => x) (fun {i o s L n} ho _ hs => by subst ho; exact hs.mem (.head _)) (fun st => ⟨_, st, rfl⟩)
    fun {i o s target v Q E} _ hP _ q => by
      obtain ⟨t, rfl⟩ := hP
      unfold letOwnedTupleGo
      cases target <;> exact wpAny_pure q
noncomputable abbrev rangeO (a b c : Int) (t u v : Tok) : Obj := { cls := .type "range", dict := none, data := .fields #[.int a t, .int b u, .int c v], slots := #[] }
theorem W.range1 {b : Int} {u : Tok} (h : ∀ r t v, Q (.ref r) L ((r, rangeO 0 b 1 t u v) :: n)) : W C (call (.type "range") [.int b u]) L n Q := fun s hs => call_range_1 ⟨L, _, (hs.push _).toks _, h _ _ _⟩
theorem W.range3 {a b c : Int} {t u v : Tok} (hc : c ≠ 0) (hp : Builtin.divisionGoesByPylong (b - a) c = false) (h : ∀ r, Q (.ref r) L ((r, rangeO a b c t u v) :: n)) : W C (call (.type "range") [.int a t, .int b u, .int c v]) L n Q := fun s hs => call_range_3 hc ⟨L, _, hs.push _, h _⟩ (.inl hp)
theorem W.iterR {r : Addr} {a b c : Int} {t u v : Tok} {k : Nat} (ok : Ok C) (hr : (r, rangeO a b c t u v) ∈ n) (hsm : Builtin.Range.small a b c = true) (hk : Builtin.Range.rangeSize a b c = (k : Int))
    (h : ∀ I, Iter C I k (fun i v q => q = [] ∧ ∃ t, v = .int (a + i * c) t) (fun i p => ∃ o, p = [(I, o)] ∧ o = { cls := .type "range_iterator", dict := none, data := .fields #[rawInt (a + (i : Nat) * c), rawInt ((k : Int) - (i : Nat)), rawInt c], slots := #[] }) (fun _ => True) →
      Q (.ref I) L ([(I, { cls := .type "range_iterator", dict := none, data := .fields #[rawInt (a + ((0 : Nat) : Int) * c), rawInt ((k : Int) - ((0 : Nat) : Int)), rawInt c], slots := #[] })] ++ n)) : W C (pyIter (.ref r)) L n Q := fun s hs =>
  wpAny_pyIter_range (hs.mem hr) hsm ⟨L, _, by
    have := hs.push { cls := .type "range_iterator", dict := none, data := .fields #[rawInt a, rawInt (Builtin.Range.rangeSize a b c), rawInt c], slots := #[] }
    rw [hk] at this ⊢
    have e1 : a + ((0 : Nat) : Int) * c = a := by simp
    have e2 : (k : Int) - ((0 : Nat) : Int) = k := by simp
    rw [e1, e2]
    exact this, h _ (Iter.range ok)⟩
-- texts
theorem Iter.ascii {I : Addr} {x : Str} {t : Tok} (ok : Ok C) :
    Iter C I x.cps.size (fun i v q => q = [] ∧ ∃ c u, x.cps[i]? = some c ∧ v = .str ⟨#[c]⟩ u) (fun i p => ∃ o, p = [(I, o)] ∧ isIt "str_ascii_iterator" (.str x t) i o) (fun _ => True) :=
  Iter.ofWalks (Walks.strAscii ok.hh I x t) _ _ (fun _ x => x) (fun ho _ hs => ⟨_, hs.mem (.head _), ho⟩) (fun st => let ⟨o, h1, h2⟩ := st; ⟨o, h1, h2⟩)
    fun {i o s target v Q E} _ hP _ q => by
      obtain ⟨c, u, _, rfl⟩ := hP
      unfold letOwnedTupleGo
      cases target <;> exact wpAny_pure q
theorem W.iterS {x : Str} {t : Tok} (ok : Ok C) (ha : x.cps.all (· < 128) = true)
    (h : ∀ I o, isIt "str_ascii_iterator" (.str x t) 0 o → Iter C I x.cps.size (fun i v q => q = [] ∧ ∃ c u, x.cps[i]? = some c ∧ v = .str ⟨#[c]⟩ u) (fun i p => ∃ o, p = [(I, o)] ∧ isIt "str_ascii_iterator" (.str x t) i o) (fun _ => True) → Q (.ref I) L ([(I, o)] ++ n)) : W C (pyIter (.str x t)) L n Q := fun s hs =>
  wpAny_pyIter_ascii ha ⟨L, _, hs.push _, h _ _ ⟨rfl, rfl⟩ (Iter.ascii ok)⟩
-- targets
theorem W.asgN {x p v} {Q : Unit → Loc → Led → Prop} (h : W C (storeName C.env x v) L n Q) : W C (assign (.Name x p) C.env v) L n Q := fun s hs => wpAny_assign_Name (h s hs)
theorem W.asgT {elts x1 pos t} {o : Obj} {xs : Array Value} {Q : Unit → Loc → Led → Prop} (ok : Ok C) (hl : Has C n t o) (ht : isTupO o xs) (h : W C (assignInOrder ((assignEach elts C.env).map (·.2)) xs.toList) L n Q)
    (hn : (assignEach elts C.env).length = xs.size := by with_unfolding_all rfl) (hstar : (assignEach elts C.env).findIdx? (·.1) = none := by with_unfolding_all rfl) : W C (assign (.Tuple elts x1 pos) C.env (.ref t)) L n Q := fun s hs =>
  wpAny_assign_Tuple ok.hh ⟨_, hl.get ok hs, ht⟩ hn hstar fun h' he => h _ (hs.keeps (tk := s.toks) fun b x e => he b x (Nat.ne_of_lt (Heap.lt_size e)) e)
theorem W.aio0 {xs : List Value} {Q : Unit → Loc → Led → Prop} (h : Q () L n) : W C (assignInOrder [] xs) L n Q := fun s hs => PyProof.Rows.assignInOrder_nil ⟨L, n, hs, h⟩
theorem W.aioN {x p rest v vs} {Q : Unit → Loc → Led → Prop} (h : W C (storeName C.env x v) L n fun _ L₁ n₁ => W C (assignInOrder ((assignEach rest C.env).map (·.2)) vs) L₁ n₁ Q) : W C (assignInOrder ((assignEach (.Name x p :: rest) C.env).map (·.2)) (v :: vs)) L n Q := fun s hs =>
  PyProof.Rows.assignInOrder_cons (wpAny_assign_Name (lift1 h hs fun _ _ _ _ h₁ k₁ => k₁ _ h₁))
theorem W.aioE {vs} {Q : Unit → Loc → Led → Prop} (h : Q () L n) : W C (assignInOrder ((assignEach [] C.env).map (·.2)) vs) L n Q := W.aio0 h
theorem W.assT {elts x1 p value pos} (h : W C (eval value C.env) L n fun v L₁ n₁ => W C (assign (.Tuple elts x1 p) C.env v) L₁ n₁ fun _ L₂ n₂ => QF .next L₂ n₂)
    (hs : swapsWithSole [.Tuple elts x1 p] value pos.line C.env = Pure.pure false := by with_unfolding_all rfl) (hw : swappedStores [.Tuple elts x1 p] value C.env = Pure.pure none := by with_unfolding_all rfl)
    (he : (assignEach [.Tuple elts x1 p] C.env).map (·.2) = [assign (.Tuple elts x1 p) C.env] := by with_unfolding_all rfl) :
    W C (exec (.Assign [.Tuple elts x1 p] value pos) C.env) L n QF := fun s hs' => by
  refine wpAny_Assign_stores (lift1 h hs' fun v s₁ L₁ n₁ h₁ k₁ => ?_) hs hw
  rw [he]
  exact lift1 k₁ h₁ fun _ _ _ _ h₂ k₂ => ⟨_, _, h₂, k₂⟩
end
end
-- MComp
section
set_option autoImplicit false
noncomputable abbrev NsO (o : Obj) (m : Str → Option Value) : Prop := ∃ es ep, o.data = .dict es ep ∧ StrKeys es ∧ ∀ name, nsFind es name = m name
theorem NsO.ns {h : Heap} {a : Addr} {o : Obj} {m : Str → Option Value} (x : NsO o m) (e : h.get? a = some o) : h.Ns a m := let ⟨es, ep, hd, r⟩ := x; ⟨o, es, ep, e, hd, r⟩
theorem nsO {h : Heap} {a : Addr} {m : Str → Option Value} (x : h.Ns a m) : ∃ o, h.get? a = some o ∧ NsO o m := let ⟨o, es, ep, e, hd, r⟩ := x; ⟨o, e, es, ep, hd, r⟩
theorem UpdL.mid {d o o'} : ∀ (p r : Led), UpdL d o o' (p ++ (d, o) :: r) (p ++ (d, o') :: r)
  | [], _ => .here
  | _ :: p, r => .there (UpdL.mid p r)
noncomputable def compT (ifs : List Expr) (env : Env) : Sem Bool := match ifs with
  | [] => Pure.pure true
  | c :: _ => isTrue c env (eval c env)
theorem lookup_relabel {env : Env} {kd : NameKind} (hkd : (kd == .free) = false) : ∀ {names : List (Str × NameKind)} {x : Str}, names.lookup x = some kd →
    (names.map fun (n, k) => if (k == NameKind.free && env.scope.kind == .function && env.kindOf n == some .cell) then (n, NameKind.cell) else (n, k)).lookup x = some kd
  | [], _, h => by simp at h
  | (n, k) :: r, x, h => by
    have ih := @lookup_relabel env kd hkd r x
    show List.lookup x ((if (k == NameKind.free && env.scope.kind == .function && env.kindOf n == some .cell) = true then (n, NameKind.cell) else (n, k)) :: _) = _
    cases hx : x == n with
    | true =>
      simp only [List.lookup_cons, hx] at h
      cases h
      simp [List.lookup_cons, hx, hkd]
    | false =>
      simp only [List.lookup_cons, hx] at h
      split <;> (simp only [List.lookup_cons, hx]; exact ih h)
section
variable {C : Cx} {L : Loc} {n : Led} {Q : Value → Loc → Led → Prop} {QF : Flow → Loc → Led → Prop} {QB : Bool → Loc → Led → Prop}
theorem Sta.add {s : Shared} {h' : Heap} {tk : Nat} {a : Addr} {o : Obj} (hs : Sta C L n s) (ha : s.heap.objs.size ≤ a) (ho : h'.get? a = some o) (hk : ∀ b x, s.heap.get? b = some x → h'.get? b = some x) : Sta C L ((a, o) :: n) { s with heap := h', toks := tk } := by
  have hs' := hs.keeps (tk := tk) hk
  obtain ⟨oL, es, ep, hL, r⟩ := hs.fr.ns
  refine ⟨hs'.fr, fun p hp => ?_, ?_, hs.gb, hs.os⟩
  · cases hp with
    | head => exact ⟨ho, fun e => absurd (Heap.lt_size hL) (Nat.not_lt.mpr (e ▸ ha)), by
        cases q : C.h₀.get? a with
        | none => rfl
        | some x => exact absurd (Heap.lt_size (hs.fr.keep _ _ q)) (Nat.not_lt.mpr ha)⟩
    | tail _ hp => exact hs'.nw p hp
  · rw [List.cons_append, List.map_cons, List.nodup_cons]
    refine ⟨fun hm => ?_, hs.nd⟩
    obtain ⟨p, hp, e⟩ := List.mem_map.mp hm
    have := Heap.lt_size (hs.nw p hp).1
    rw [e] at this
    exact absurd this (Nat.not_lt.mpr ha)
/-- the place of a comprehension within C -/
noncomputable def Cx.comp (C : Cx) (env : Env) (fn : Fn) (oL : Obj) : Cx := ⟨C.w, C.A, C.E, C.h₀, env, fn, C.mg, C.mb, C.os, (C.loc, oL) :: C.hid, C.gp⟩
theorem Sta.enter {s : Shared} {env : Env} {fn : Fn} {oC : Obj} {Lc : Loc} (hs : Sta C L ((env.locals, oC) :: n) s) (hab : C.h₀.objs.size ≤ env.locals) (hC : NsO oC (look2 fn.ns Lc)) :
    ∃ oL, NsO oL (look2 C.fn.ns L) ∧ Sta (C.comp env fn oL) Lc n s := by
  obtain ⟨oL, hL, hoL⟩ := nsO hs.fr.ns
  have nd := hs.nd
  rw [List.cons_append, List.map_cons, List.nodup_cons] at nd
  have hl := (hs.nw _ (List.mem_append_left _ (.head _)))
  have hpm : (n ++ (C.loc, oL) :: C.hid).Perm ((C.loc, oL) :: (n ++ C.hid)) := List.perm_middle
  refine ⟨oL, hoL, ⟨hC.ns hl.1, hs.fr.keep, hab⟩, fun p hp => ?_, ?_, hs.gb, hs.os⟩
  · cases hpm.mem_iff.mp hp with
    | head => exact ⟨hL, fun e => hl.2.1 e.symm, by
        show C.h₀.get? C.loc = none
        cases q : C.h₀.get? C.loc with
        | none => rfl
        | some x => exact absurd (Heap.lt_size q) (Nat.not_lt.mpr hs.fr.above)⟩
    | tail _ hp => exact ⟨(hs.nw p (.tail _ hp)).1, fun e => nd.1 (List.mem_map.mpr ⟨p, hp, e⟩), (hs.nw p (.tail _ hp)).2.2⟩
  · refine (hpm.map _).nodup_iff.mpr ?_
    rw [List.map_cons, List.nodup_cons]
    refine ⟨fun hm => ?_, nd.2⟩
    obtain ⟨p, hp, e⟩ := List.mem_map.mp hm
    exact (hs.nw p (.tail _ hp)).2.1 e
theorem Sta.leave {s : Shared} {env : Env} {fn : Fn} {oL : Obj} {Lc : Loc} (hs : Sta (C.comp env fn oL) Lc n s) (hab : C.h₀.objs.size ≤ C.loc) (hL : NsO oL (look2 C.fn.ns L)) (hCn : C.h₀.get? env.locals = none) :
    ∃ oC, NsO oC (look2 fn.ns Lc) ∧ Sta C L ((env.locals, oC) :: n) s := by
  obtain ⟨oC, hC, hoC⟩ := nsO hs.fr.ns
  have hpm : (n ++ (C.loc, oL) :: C.hid).Perm ((C.loc, oL) :: (n ++ C.hid)) := List.perm_middle
  have nd := (hpm.map (·.1)).nodup_iff.mp hs.nd
  rw [List.map_cons, List.nodup_cons] at nd
  have hl := hs.nw (C.loc, oL) (hpm.mem_iff.mpr (.head _))
  have ho : ∀ p ∈ n ++ C.hid, p ∈ n ++ (C.loc, oL) :: C.hid := fun p hp => hpm.mem_iff.mpr (.tail _ hp)
  refine ⟨oC, hoC, ⟨hL.ns hl.1, hs.fr.keep, hab⟩, fun p hp => ?_, ?_, hs.gb, hs.os⟩
  · cases hp with
    | head => exact ⟨hC, fun e => hl.2.1 e.symm, hCn⟩
    | tail _ hp => exact ⟨(hs.nw p (ho p hp)).1, fun e => nd.1 (List.mem_map.mpr ⟨p, hp, e⟩), (hs.nw p (ho p hp)).2.2⟩
  · rw [List.cons_append, List.map_cons, List.nodup_cons]
    refine ⟨fun hm => ?_, nd.2⟩
    obtain ⟨p, hp, e⟩ := List.mem_map.mp hm
    exact (hs.nw p (ho p hp)).2.1 e
/-- what is asked of a comprehension's scope, all closed -/
noncomputable def scopeCheck (scope : Scope) (ns gns : List Str) : Bool :=
  (match scope.kind with | .function => true | _ => false) && scope.names.all (fun x => match x.2 with | .cell => false | _ => true) &&
  scope.names.all (fun x => match x.2 with | .local => (match scope.names.lookup x.1 with | some .local => true | _ => false) | _ => true) &&
  ns.all (fun x => (match scope.names.lookup x with | some .local => true | _ => false) && !(x == ("__debug__" : Str))) &&
  gns.all (fun x => (match scope.names.lookup x with | some .globalImplicit => true | _ => false) && !(x == ("__debug__" : Str))) && decide ns.Nodup
theorem codeAny_compLoopW {w : World} {A : Around} {R : Result → Shared → Prop} {s : Shared} {elt target iter : Expr} {ifs : List Expr} {scope : Scope} {pos : Pos} {it acc : Value} {env : Env} (I : Nat → Shared → Prop) (hif : ifs.length ≤ 1)
    (turn : ∀ n s, I n s → wpAny (model P0 w) A (pyNext it) (fun r s₁ => match r with
      | none => R (.ok .next) s₁
      | some v => wpAny (model P0 w) A (letOwnedTupleGo target it v) (fun _ s₁' => wpAny (model P0 w) A (assign target env v) (fun _ s₂ => wpAny (model P0 w) A (compT ifs env) (fun ok s₃ =>
            if ok = true then wpAny (model P0 w) A (eval elt env) (fun x s₄ => wpAny (model P0 w) A (call (.builtin "list.append") [acc, x]) (fun _ s₅ => ∃ m, m < n ∧ I m s₅) (fun _ _ => False) s₄) (fun _ _ => False) s₃
            else ∃ m, m < n ∧ I m s₃) (fun _ _ => False) s₂) (fun _ _ => False) s₁') (fun _ _ => False) s₁) (fun _ _ => False) s)
    (n : Nat) (h : I n s) : codeAny (model P0 w) A (.compLoop (.ListComp elt [⟨target, iter, ifs, 0⟩] scope pos) 0 it acc env) R s := by
  refine codeAny_loop rfl I (fun n s hI => ?_) n h
  show wpAny _ A ((compTurn (.ListComp elt [⟨target, iter, ifs, 0⟩] scope pos) 0 it acc env).onRaise (fun x => do noteFrame x env; theTreesLotGoes x)) _ _ s
  refine wpAny_noted ?_
  rw [compTurn_list]
  refine wpAny_bind (wpAny_standAt (wpAny_bind (wpAny_mono (turn n s hI) (fun r s₁ h₁ => ?_) fun _ _ h' => h'.elim)))
  cases r with
  | none => exact wpAny_pure h₁
  | some v =>
    refine wpAny_bind (wpAny_mono h₁ (fun _ s₁' h₁' => ?_) fun _ _ h' => h'.elim)
    refine wpAny_bind (wpAny_mono h₁' (fun _ s₂ h₂ => ?_) fun _ _ h' => h'.elim)
    have key : ∀ (Q : Bool → Shared → Prop) (E : Value → Shared → Prop), wpAny (model P0 w) A (compT ifs env) Q E s₂ → wpAny (model P0 w) A (forIn ifs true fun c r => if r = true then do let ok ← isTrue c env (eval c env); Pure.pure (ForInStep.yield ok) else Pure.pure (ForInStep.yield r)) Q E s₂ := fun Q E hq => by
      match ifs, hif, hq with
      | [], _, hq => exact hq
      | [c], _, hq => exact wpAny_tests_one hq
    refine wpAny_bind (key _ _ (wpAny_mono h₂ (fun ok s₃ h₃ => ?_) fun _ _ h' => h'.elim))
    cases ok with
    | false => exact wpAny_pure ⟨rfl, h₃⟩
    | true =>
      exact wpAny_bind (wpAny_bind (wpAny_mono h₃ (fun x s₄ h₄ => wpAny_bind (wpAny_mono h₄ (fun _ s₅ h₅ => wpAny_pure (wpAny_pure ⟨rfl, h₅⟩)) fun _ _ h' => h'.elim)) fun _ _ h' => h'.elim))
/-- a list comprehension whose list gets a name -/
theorem W.assComp {y : Str} {py pos spos : Pos} {elt target iter : Expr} {ifs : List Expr} {scope : Scope} {cl : List (Str × Addr)} (ns gns : List Str) (ok : Ok C) (hE : C.E = fun _ _ => False) (hy : y ∈ C.fn.ns)
    (hclos : closureFor scope C.env = Pure.pure cl)
    (h : W C (eval iter C.env) L n fun x L₁ n₁ => W C (pyIter x) L₁ n₁ fun it L₂ n₂ =>
      ∃ (I : Addr) (k : Nat) (P : Nat → Value → Led → Prop) (own : Nat → Led → Prop) (foot : Led → Prop) (J : Nat → List Value → Loc → Led → Prop) (p n₃ : Led),
        it = .ref I ∧ n₂ = p ++ n₃ ∧ k ≤ sizeLine ∧ Iter C I k P own foot ∧ own 0 p ∧ J 0 [] (ns.map fun _ => none) n₃ ∧ (∀ i ys Lc n, J i ys Lc n → foot n) ∧
        (∀ C', Hid C C' → Ok C' → ∀ D m ys Lc n', J k ys Lc n' → W C' (storeName C'.env y (.ref D)) L₂ ((D, listOf ys.toArray m) :: n') fun _ L₃ n₃ => QF .next L₃ n₃) ∧
        ∀ C', Ok C' → C'.w = C.w → C'.A = C.A → (C'.E = fun _ _ => False) → C'.fn.ns = ns → C'.fn.gns = gns → C'.env = compEnvC scope cl C'.loc C.env → ∀ i ys v q Lc n₄, i < k → P i v q → J i ys Lc n₄ →
          W C' (assign target C'.env v) Lc (q ++ n₄) fun _ L₅ n₅ => W C' (compT ifs C'.env) L₅ n₅ fun b L₆ n₆ => if b then W C' (eval elt C'.env) L₆ n₆ (fun y L₇ n₇ => J (i + 1) (ys ++ [y]) L₇ n₇) else J (i + 1) ys L₆ n₆)
    (hsc : scopeCheck scope ns gns = true) (hif : ifs.length ≤ 1) (hln : (py.line == pos.line) = true) (hno : (scope.names.any fun (n, k) => n == y && (k == .local || k == .cell)) = false)
    (hf : ∀ x, foldedSetIterable iter C.env x = Pure.pure x := by intro _; with_unfolding_all rfl) :
    W C (exec (.Assign [.Name y py] (.ListComp elt [⟨target, iter, ifs, 0⟩] scope pos) spos) C.env) L n QF := fun s hs => by
  unfold scopeCheck at hsc
  simp only [Bool.and_eq_true, Bool.not_eq_true', decide_eq_true_eq, List.all_eq_true] at hsc
  obtain ⟨⟨⟨⟨⟨e1, e2⟩, e3⟩, e4⟩, e5⟩, e6⟩ := hsc
  have hkind : scope.kind = .function := by revert e1; cases scope.kind <;> simp
  have hcell : ∀ z ∈ scope.names, z.2 ≠ .cell := fun z hz q => by have := e2 z hz; rw [q] at this; cases this
  have hnames : ∀ z ∈ scope.names, z.2 = .local → scope.names.lookup z.1 = some .local := fun z hz q => by
    have := e3 z hz
    rw [q] at this
    revert this
    dsimp only
    split
    · intro _; assumption
    · intro h; cases h
  have hloc : ∀ x ∈ ns, scope.names.lookup x = some .local ∧ (x == ("__debug__" : Str)) = false := fun x hx => by
    have := e4 x hx
    refine ⟨?_, this.2⟩
    have h1 := this.1
    revert h1
    split
    · intro _; assumption
    · intro h; cases h
  have hglo : ∀ x ∈ gns, scope.names.lookup x = some .globalImplicit ∧ (x == ("__debug__" : Str)) = false := fun x hx => by
    have := e5 x hx
    refine ⟨?_, this.2⟩
    have h1 := this.1
    revert h1
    split
    · intro _; assumption
    · intro h; cases h
  have hsw : swapsWith (.ListComp elt [⟨target, iter, ifs, 0⟩] scope pos) (some (.Name y py)) spos.line C.env = Pure.pure true := by
    show (Pure.pure (C.env.blockKind == .function && C.env.kindOf y == some .local && py.line == pos.line && !(scope.names.any fun (n, k) => n == y && (k == .local || k == .cell))) : Sem Bool) = _
    rw [hln, hno, (ok.locs y hy).1]
    have : C.env.blockKind = .function := by unfold Env.blockKind; rw [ok.kind]; rfl
    rw [this]; rfl
  rw [exec_Assign_Name_used _ _ _ _ hsw]
  refine wpAny_bind (wpAny_standAt (wpAny_bind ?_))
  show wpAny _ C.A (do let _ ← comprehension (.ListComp elt [⟨target, iter, ifs, 0⟩] scope pos) scope C.env _ (newList []) false (eval iter C.env) (some (assign (.Name y py) C.env))) _ _ s
  refine wpAny_bind (wpAny_mono (wpAny_comprehension_free (use := some (assign (.Name y py) C.env)) (Q := fun _ s' => ∃ L' n', Sta C L' n' s' ∧ QF .next L' n') rfl hf hclos hkind hnames
    (lift1 h hs fun x s₁ L₁ n₁ h₁ q₁ => lift1 q₁ h₁ fun it s₂ L₂ n₂ h₂ q₂ => ?_)) (fun _ s' hq => wpAny_pure (wpAny_pure hq)) fun _ _ e => e)
  obtain ⟨I, k, P, own, foot, J, p, n₃, rfl, rfl, hksz, Z, hp, hJ, hft, hend, hturn⟩ := q₂
  refine wpAny_newObj_type (wpAny_newFunctionEnv hcell (by intro y hy; simp at hy) (fun h₁ hns₁ hsb₁ => ?_) hkind)
  dsimp only at hns₁ hsb₁ ⊢
  have h₃ := h₂.push { cls := .type "list", dict := none, data := .seq ([] : List Value).toArray }
  generalize hD : s₂.heap.objs.size = D at h₃ ⊢
  generalize hH : s₂.heap.push { cls := .type "list", dict := none, data := .seq ([] : List Value).toArray } = H at hns₁ hsb₁ h₃ ⊢
  generalize hCl : H.objs.size = Cl at hns₁ hsb₁ ⊢
  obtain ⟨oC, hoC, hnC⟩ := nsO hns₁
  have old : ∀ b x, H.get? b = some x → h₁.get? b = some x := fun b x e => hsb₁.extBut b x (fun q => absurd (Heap.lt_size e) (by rw [q, hCl]; exact Nat.lt_irrefl _)) (Heap.get?_push_of_some _ e)
  have h₄ : Sta C L₂ ((Cl, oC) :: (D, listOf ([] : List Value).toArray 0) :: (p ++ n₃)) { s₂ with heap := h₁, toks := s₂.toks + ([] : List (Str × Value)).length } := h₃.add (tk := _) (Nat.le_of_eq hCl) hoC old
  have hab : C.h₀.objs.size ≤ Cl := by
    obtain ⟨oL', es', ep', hL', _⟩ := h₂.fr.ns
    have l2 : C.loc < s₂.heap.objs.size := Heap.lt_size hL'
    have l3 : H.objs.size = s₂.heap.objs.size + 1 := by rw [← hH, Heap.size_push]
    rw [← hCl, l3]
    exact Nat.le_trans hs.fr.above (Nat.le_of_lt (Nat.lt_succ_of_lt l2))
  have hCn : C.h₀.get? Cl = none := by
    cases q : C.h₀.get? Cl with
    | none => rfl
    | some x => exact absurd (Heap.lt_size q) (Nat.not_lt.mpr hab)
  have hfn : look2 ns (ns.map fun _ => none) = fun _ => none := by
    funext x
    rw [look2_map]
    split <;> rfl
  let fnC : Fn := ⟨C.fn.fd, C.fn.fa, ns, gns⟩
  have hcenv : ∀ x, Env.kindOf (compEnvC scope cl Cl C.env) x = (relabel scope C.env).names.lookup x := fun _ => rfl
  have okC : ∀ oL, Ok (C.comp (compEnvC scope cl Cl C.env) fnC oL) := fun oL =>
    ⟨ok.k, ok.g, ok.b, ok.gt, ok.bt, ok.lim, ok.dig, ok.bm, ok.hh, ok.gl, ok.bl, hkind, fun x hx => ⟨lookup_relabel rfl (hloc x hx).1, (hloc x hx).2⟩, fun x hx => ⟨lookup_relabel rfl (hglo x hx).1, (hglo x hx).2⟩, e6⟩
  have perm1 : ∀ (c d : Addr × Obj) (p n : Led), (p ++ (c :: d :: n)).Perm (c :: ((p ++ [d]) ++ n)) := fun c d p n => by
    rw [List.append_assoc, List.singleton_append]
    exact List.perm_middle
  have noE : ∀ (v : Value) (s : Shared), C.E v s → False := fun _ _ e => by rw [hE] at e; exact e
  have loop : ∀ s₄ : Shared, Sta C L₂ (p ++ ((Cl, oC) :: (D, listOf ([] : List Value).toArray 0) :: n₃)) s₄ →
      codeAny (model P0 C.w) C.A (.compLoop (.ListComp elt [⟨target, iter, ifs, 0⟩] scope pos) 0 (.ref I) (.ref D) (compEnvC scope cl Cl C.env))
        (compPost (model P0 C.w) C.A C.E (some (assign (.Name y py) C.env)) (fun _ s' => ∃ L' n', Sta C L' n' s' ∧ QF .next L' n') (.ref D) Cl) s₄ := fun s₄ h₄ => by
    refine codeAny_compLoopW (fun m s' => ∃ i Lc n' p' ys mm oC, m = k - i ∧ i ≤ k ∧ ys.length ≤ i ∧ own i p' ∧ NsO oC (look2 ns Lc) ∧ Sta C L₂ (p' ++ ((Cl, oC) :: (D, listOf (List.toArray ys) mm) :: n')) s' ∧ J i ys Lc n') hif ?_ k
      ⟨0, _, n₃, p, [], 0, oC, rfl, Nat.zero_le _, Nat.le_refl _, hp, by rw [hfn]; exact hnC, h₄, hJ⟩
    rintro m s' ⟨i, Lc, n', p', ys, mm, oC, rfl, hik, hys, hp', hoC, h', j'⟩
    have hfoot : foot ((Cl, oC) :: (D, listOf (List.toArray ys) mm) :: n') := Z.mono (fun p hp => .tail _ (.tail _ hp)) (hft _ _ _ _ j')
    by_cases hlt : i < k
    · refine wpAny_mono (Z.item (Q := fun r L₄ n₄ => ∃ v p₅ q, r = some v ∧ P i v q ∧ own (i + 1) p₅ ∧ L₄ = L₂ ∧ n₄ = p₅ ++ (q ++ ((Cl, oC) :: (D, listOf (List.toArray ys) mm) :: n'))) hlt hp' hfoot (fun v p₅ q hP ho => ⟨v, p₅, q, rfl, hP, ho, rfl, rfl⟩) s' h') (fun r s₄ hr => ?_) noE
      obtain ⟨L₄, n₄, h₄, v, p₅, q, rfl, hP, ho, e1, e2⟩ := hr
      subst L₄; subst n₄
      refine wpAny_mono (Z.letgo (Q := fun _ L₅ n₅ => ∃ p₆, own (i + 1) p₆ ∧ L₅ = L₂ ∧ n₅ = p₆ ++ (q ++ ((Cl, oC) :: (D, listOf (List.toArray ys) mm) :: n'))) ho hP (fun p₆ h6 => ⟨p₆, h6, rfl, rfl⟩) s₄ h₄) (fun _ s₅ hr => ?_) noE
      obtain ⟨L₅, n₅, h₅, p₆, h6, e1, e2⟩ := hr
      subst L₅; subst n₅
      have h₅' : Sta C L₂ ((Cl, oC) :: ((p₆ ++ [(D, listOf (List.toArray ys) mm)]) ++ (q ++ n'))) s₅ := h₅.perm (by
        have a1 : ((Cl, oC) :: ((p₆ ++ [(D, listOf (List.toArray ys) mm)]) ++ (q ++ n'))).Perm (p₆ ++ ((Cl, oC) :: (D, listOf (List.toArray ys) mm) :: (q ++ n'))) := (perm1 _ _ _ _).symm
        refine a1.trans (List.Perm.append_left _ ?_)
        have a2 : ((Cl, oC) :: (D, listOf (List.toArray ys) mm) :: (q ++ n')).Perm (((Cl, oC) :: (D, listOf (List.toArray ys) mm) :: n') ++ q) := by
          rw [List.cons_append, List.cons_append]
          exact (List.perm_append_comm.cons _).cons _
        exact a2.trans List.perm_append_comm)
      obtain ⟨oL, hoL, h₆⟩ := h₅'.enter (fn := fnC) (Lc := Lc) (env := compEnvC scope cl Cl C.env) hab hoC
      have T := hturn ((C.comp (compEnvC scope cl Cl C.env) fnC oL).hide (p₆ ++ [(D, listOf (List.toArray ys) mm)])) ((okC oL).hide _) rfl rfl hE rfl rfl rfl i ys v q Lc n' hlt hP j' s₅ h₆.hide
      have back : ∀ {s₈ Lx nx ys' mm'}, Sta ((C.comp (compEnvC scope cl Cl C.env) fnC oL)) Lx ((p₆ ++ [(D, listOf (List.toArray ys') mm')]) ++ nx) s₈ → ys'.length ≤ i + 1 → J (i + 1) ys' Lx nx →
          ∃ m, m < k - i ∧ ∃ i Lc n' p' ys mm oC, m = k - i ∧ i ≤ k ∧ ys.length ≤ i ∧ own i p' ∧ NsO oC (look2 ns Lc) ∧ Sta C L₂ (p' ++ ((Cl, oC) :: (D, listOf (List.toArray ys) mm) :: n')) s₈ ∧ J i ys Lc n' := fun {s₈ Lx nx ys' mm'} hsx hly hjx => by
        obtain ⟨oC', hoC', h₉⟩ := hsx.leave (L := L₂) hs.fr.above hoL hCn
        exact ⟨k - (i + 1), by omega, i + 1, Lx, nx, p₆, ys', mm', oC', rfl, hlt, hly, h6, hoC', h₉.perm (perm1 _ _ _ _), hjx⟩
      refine wpAny_mono T (fun _ s₆ ⟨L₆, n₆, h₆, q₆⟩ => wpAny_mono (q₆ s₆ h₆) (fun b s₇ ⟨L₇, n₇, h₇, q₇⟩ => ?_) noE) noE
      cases b with
      | false => exact back h₇.show (Nat.le_succ_of_le hys) q₇
      | true =>
        refine wpAny_mono (q₇ s₇ h₇) (fun x s₈ ⟨L₈, n₈, h₈, q₈⟩ => ?_) noE
        have h₈' := h₈.show
        have hD' : s₈.heap.get? D = some (listOf (List.toArray ys) mm) := h₈'.mem (p := (D, listOf (List.toArray ys) mm)) (List.mem_append_left _ (List.mem_append_right _ (.head _)))
        refine wpAny_list_append_plain (hsz := by simp; omega) ⟨mm, hD'⟩ fun h' hpl hsb => ?_
        obtain ⟨mm', hD''⟩ := hpl
        have e : (List.toArray ys).push x = List.toArray (ys ++ [x]) := by simp
        rw [e] at hD''
        refine back (mm' := mm') (ys' := ys ++ [x]) (h₈'.chg (tk := s₈.toks) (o := listOf (List.toArray ys) mm) ?_ hD'' fun b z hb e => hsb.extBut b z hb e) (by simp; omega) q₈
        have := UpdL.mid (d := D) (o := listOf (List.toArray ys) mm) (o' := listOf (List.toArray (ys ++ [x])) mm') p₆ n₈
        simpa using this
    · have e : i = k := by omega
      subst e
      refine wpAny_mono (Z.done (Q := fun r L₄ n₄ => r = none ∧ L₄ = L₂ ∧ n₄ = ((Cl, oC) :: (D, listOf (List.toArray ys) mm) :: n')) hp' hfoot ⟨rfl, rfl, rfl⟩ s' h') (fun r s₄ hr => ?_) noE
      obtain ⟨L₄, n₄, h₄, rfl, e1, e2⟩ := hr
      subst L₄; subst n₄
      have h₄' : Sta C L₂ ([(Cl, oC)] ++ ((D, listOf (List.toArray ys) mm) :: n')) s₄ := h₄
      refine wpAny_assign_Name (wpAny_mono (hend (C.hide [(Cl, oC)]) (C.hide_hid _) (ok.hide _) D mm ys Lc n' j' s₄ h₄'.hide) (fun _ s₅ ⟨L₅, n₅, h₅, q₅⟩ => ?_) fun _ _ e => (noE _ _ e).elim)
      have h₅' : Sta C L₅ ((Cl, oC) :: n₅) s₅ := h₅.show
      exact ⟨_, hoC.ns (h₅'.mem (.head _)), fun h' hsb => ⟨L₅, n₅, h₅'.lose (tk := s₅.toks) fun b z hb e => hsb.extBut b z hb e, q₅⟩⟩
  have h₄' : Sta C L₂ (p ++ ((Cl, oC) :: (D, listOf ([] : List Value).toArray 0) :: n₃)) { s₂ with heap := h₁, toks := s₂.toks + ([] : List (Str × Value)).length } := h₄.perm (by
    refine (perm1 _ _ _ _).trans (List.Perm.cons _ ?_)
    rw [List.append_assoc, List.singleton_append]
    exact List.perm_middle)
  refine codeAny_compStart_list (loop _ h₄') ?_
  refine wpAny_mono (Z.self (Q := fun v L₄ n₄ => v = .ref I ∧ L₄ = L₂ ∧ n₄ = p ++ ((Cl, oC) :: (D, listOf ([] : List Value).toArray 0) :: n₃)) hp (Z.mono (fun p hp => .tail _ (.tail _ hp)) (hft _ _ _ _ hJ)) ⟨rfl, rfl, rfl⟩ _ h₄') (fun v s₅ hr => ?_) fun _ _ e => (noE _ _ e).elim
  obtain ⟨L₄, n₄, h₅, rfl, e1, e2⟩ := hr
  subst L₄; subst n₄
  exact loop _ h₅
end
end
-- MCell
section
set_option autoImplicit false
/-- a def some of whose names are cells -/
structure FnOkC (f : Fn) (body : List Stmt) : Prop where
  body : f.fd.body = .stmts body
  gl : f.fd.globals = mainGlobals
  bl : f.fd.builtins = builtinsNs
  kind : f.fd.scope.kind = .function
  co : f.fd.scope.isCoroutine = false
  gen : f.fd.scope.isGenerator = false
  clo : f.fd.closure = []
  cnd : ((cellsFrom 0 f.fd.scope.names []).map (·.1)).Nodup
  locs : ∀ x ∈ f.ns, f.fd.scope.names.lookup x = some .local ∧ (x == ("__debug__" : Str)) = false
  gls : ∀ x ∈ f.gns, f.fd.scope.names.lookup x = some .globalImplicit ∧ (x == ("__debug__" : Str)) = false
  nd : f.ns.Nodup
  at_ : ∀ P, (K P).lookup f.fa = some ⟨.type "function", none, .func f.fd, #[]⟩
  code : ∀ P, codeIn (K P) f.fd.code f.fd.qualname = true
noncomputable def fnCheckC (f : Fn) : Bool :=
  f.fd.globals == mainGlobals && f.fd.builtins == builtinsNs && (match f.fd.scope.kind with | .function => true | _ => false) && !f.fd.scope.isCoroutine && !f.fd.scope.isGenerator &&
  (match f.fd.closure with | [] => true | _ => false) && decide ((cellsFrom 0 f.fd.scope.names []).map (·.1)).Nodup &&
  f.ns.all (fun x => (match f.fd.scope.names.lookup x with | some .local => true | _ => false) && !(x == ("__debug__" : Str))) &&
  f.gns.all (fun x => (match f.fd.scope.names.lookup x with | some .globalImplicit => true | _ => false) && !(x == ("__debug__" : Str))) && decide f.ns.Nodup
theorem FnOkC.of {f : Fn} {body : List Stmt} (hb : f.fd.body = .stmts body) (e : fnCheckC f = true) (ha : ∀ P, (K P).lookup f.fa = some ⟨.type "function", none, .func f.fd, #[]⟩) (hc : ∀ P, codeIn (K P) f.fd.code f.fd.qualname = true) : FnOkC f body := by
  unfold fnCheckC at e
  simp only [Bool.and_eq_true, Bool.not_eq_true', decide_eq_true_eq, List.all_eq_true, beq_iff_eq] at e
  obtain ⟨⟨⟨⟨⟨⟨⟨⟨⟨e1, e2⟩, e3⟩, e4⟩, e5⟩, e6⟩, e7⟩, e8⟩, e9⟩, e10⟩ := e
  refine ⟨hb, e1, e2, ?_, e4, e5, ?_, e7, fun x hx => ?_, fun x hx => ?_, e10, ha, hc⟩
  · revert e3; cases f.fd.scope.kind <;> simp
  · revert e6; cases f.fd.closure <;> simp
  · have := e8 x hx
    refine ⟨?_, this.2⟩
    have h1 := this.1
    revert h1
    split
    · intro _; assumption
    · intro h; cases h
  · have := e9 x hx
    refine ⟨?_, this.2⟩
    have h1 := this.1
    revert h1
    split
    · intro _; assumption
    · intro h; cases h
theorem FnOkC.keep {f : Fn} {body : List Stmt} (fo : FnOkC f body) (P : Params) : keepIn (K P) (.ref f.fa) = true := by
  unfold keepIn
  dsimp only
  rw [fo.at_]
theorem CellsAre.keys {cm : Str → Option Value} {cs : List (Str × Addr)} {cells : Led} (x : CellsAre cm cs cells) : cells.map (·.1) = cs.map (·.2) := by
  induction x with
  | nil => rfl
  | cons _ _ ih => rw [List.map_cons, List.map_cons, ih]
section
variable {C : Cx} {L : Loc} {n : Led} {Q : Value → Loc → Led → Prop} {QU : Unit → Loc → Led → Prop}
theorem W.callC {f : Fn} {body : List Stmt} {args : List Value} {binds : List (Str × Value)} (Lb : Loc) (ok : Ok C) (fo : FnOkC f body) (hroom : C.A.depth < recursionLimit)
    (hbind : bindArgs f.fd ⟨args, []⟩ = Pure.pure binds)
    (hkind : ∀ n, ∀ x ∈ binds, f.fd.scope.names.lookup x.1 = some .local ∨ (f.fd.scope.names.lookup x.1 = some .cell ∧ ((cellsFrom n f.fd.scope.names []).lookup x.1).isSome = true))
    (hLb : look2 f.ns Lb = bindL (fun x => f.fd.scope.names.lookup x) binds fun _ => none)
    (h : ∀ C' : Cx, Ok C' → C'.fn = f → C'.w = C.w → (C'.A.depth = C.A.depth + 1 ∧ C'.A.units = C.A.units + 3) → (C'.E = fun _ _ => False) → C'.env = callEnvC f.fd C'.loc f.fa → ∀ cells, CellsAre (bindC (fun x => f.fd.scope.names.lookup x) binds fun _ => none) C'.env.cells cells →
      W C' (execs body C'.env) Lb (cells ++ n) fun fl _ n' => Q (retOf fl) L n') :
    W C (call (.ref f.fa) args) L n Q := fun s hs => by
  have X := ok.k.keeps hs.fr.keep
  refine wpAny_call (codeAny_call_function hroom (X _ _ (fo.at_ _)) rfl fo.co fo.gen fo.body (codeRec_of X (fo.code _)) ?_)
  rw [hbind, fo.clo]
  refine wpAny_pure (wpAny_newFunctionEnv_cells fo.kind (hkind _) fun env' he s' x => ?_)
  subst he
  refine ⟨((ok.lim.keeps hs.fr.keep)).keeps x.toInCall.keep, codeAny_func ?_⟩
  obtain ⟨h₁, tk, rfl, _⟩ := x.done
  have hk₁ : ∀ b o, s.heap.get? b = some o → h₁.get? b = some o := x.toInCall.keep
  have nm : ∀ b o, C.h₀.get? b = some o → b ∉ (n ++ C.hid).map (·.1) := fun b o e q => by
    obtain ⟨p, hp, rfl⟩ := List.mem_map.mp q
    rw [(hs.nw p hp).2.2] at e; cases e
  have st : ∀ b o, C.h₀.get? b = some o → (hideAll s.heap ((n ++ C.hid).map (·.1))).get? b = some o := fun b o e => hideAll_get _ (hs.fr.keep b o e) (nm b o e)
  obtain ⟨oL, es, ep, hL, hLd, hLk, hLf⟩ := hs.fr.ns
  have nL : C.loc ∉ (n ++ C.hid).map (·.1) := fun q => by
    obtain ⟨p, hp, e⟩ := List.mem_map.mp q
    exact (hs.nw p hp).2.1 e
  have hLg := hideAll_get ((n ++ C.hid).map (·.1)) hL nL
  obtain ⟨cells, NC, Y⟩ := Cl.news (h₀ := s.heap) (h := h₁) (Nat.le_refl _) fun n c hm => ⟨x.cell n c (lookup_of_mem_nodup (cellsFrom_names f.fd.scope.names 0 (s.heap.objs.size + 1) [] [] rfl ▸ fo.cnd) hm), x.above n c hm⟩
  have ok' : Ok ⟨C.w, C.A.deeper (callEnvC f.fd s.heap.objs.size f.fa), fun _ _ => False, hideAll s.heap ((n ++ C.hid).map (·.1)), callEnvC f.fd s.heap.objs.size f.fa, f, C.mg, C.mb, C.os, C.hid, C.gp⟩ :=
    ⟨ok.k.keeps st, ok.g.keeps st, ok.b.keeps st, ok.gt, ok.bt, ok.lim.keeps st, let ⟨mc, h1, h2⟩ := ok.dig; ⟨mc, h1.keeps st, h2⟩, let ⟨bm, ob, z⟩ := ok.bm; ⟨bm, ob, z.keeps st⟩, ok.hh, fo.gl, fo.bl, fo.kind, fo.locs, fo.gls, fo.nd⟩
  refine wpAny_mono (h _ ok' rfl rfl ⟨rfl, rfl⟩ rfl rfl cells Y { s with heap := h₁, toks := tk } ⟨?_, ?_, ?_, hs.gb, hs.os⟩) (fun fl s' hl => ?_) fun _ _ y => y.elim
  · exact ⟨by rw [hLb]; exact x.toInCall.ns, fun b o e => hk₁ b o (of_hideAll _ e), Nat.le_of_eq (hideAll_size _ _)⟩
  · intro p hp
    rw [List.append_assoc] at hp
    rcases List.mem_append.mp hp with hp | hp
    · refine ⟨(NC p hp).1, (NC p hp).2.1, ?_⟩
      cases q : (hideAll s.heap ((n ++ C.hid).map (·.1))).get? p.1 with
      | none => first | exact q | rfl
      | some o => have := of_hideAll _ q; rw [(NC p hp).2.2] at this; cases this
    · exact ⟨hk₁ _ _ (hs.nw p hp).1, Nat.ne_of_lt (Heap.lt_size (hs.nw p hp).1), hideAll_none _ (List.mem_map_of_mem hp)⟩
  · show ((cells ++ n ++ C.hid).map (·.1)).Nodup
    rw [List.append_assoc, List.map_append, List.nodup_append]
    refine ⟨?_, hs.nd, fun a ha b hb e => ?_⟩
    · rw [CellsAre.keys Y]
      exact List.pairwise_map.mpr x.apart
    · obtain ⟨p, hp, rfl⟩ := List.mem_map.mp ha
      obtain ⟨p', hp', rfl⟩ := List.mem_map.mp hb
      have h1 := (NC p hp).2.2
      rw [e, (hs.nw p' hp').1] at h1
      cases h1
  obtain ⟨L', n', hs', hq⟩ := hl
  have key : ∃ L' n', Sta C L' n' s' ∧ Q (retOf fl) L' n' := by
    refine ⟨L, n', ⟨⟨⟨oL, es, ep, hs'.fr.keep C.loc oL hLg, hLd, hLk, hLf⟩, fun b o e => hs'.fr.keep b o (st b o e), hs.fr.above⟩, fun p hp => ⟨(hs'.nw p hp).1, fun q => ?_, ?_⟩, hs'.nd, hs'.gb, hs'.os⟩, hq⟩
    · have := (hs'.nw p hp).2.2; dsimp only at this; rw [q, hLg] at this; cases this
    · cases q : C.h₀.get? p.1 with
      | none => rfl
      | some o => have := (hs'.nw p hp).2.2; dsimp only at this; rw [st _ _ q] at this; cases this
  cases fl <;> exact key
theorem W.ldc {x pos c v} {o : Obj} (ok : Ok C) (hk : C.env.kindOf x = some .cell) (hc : C.env.cells.lookup x = some c) (hm : (c, o) ∈ n) (hd : o.data = .cell (some v)) (h : Q v L n) (hb : (x == ("__debug__" : Str)) = false := by decide) : W C (eval (.Name x pos) C.env) L n Q := fun _ hs =>
  wpAny_Name (wpAny_loadName_cell ok.kind hk hc ⟨o, hs.mem hm, hd⟩ ⟨_, _, hs, h⟩) hb
theorem W.stc {x c v v₀} {o : Obj} {N : Obj → Led} (ok : Ok C) (hk : C.env.kindOf x = some .cell) (hc : C.env.cells.lookup x = some c) (U : ∀ o', UpdL c o o' n (N o')) (hd : o.data = .cell v₀) (h : ∀ o', o'.data = .cell (some v) → QU () L (N o')) : W C (storeName C.env x v) L n QU := fun s hs =>
  wpAny_storeName_cell ok.kind hk hc ⟨o, hs.mem (U o).mem, hd⟩ fun h' hc' hsb => by
    obtain ⟨o', ho', hd'⟩ := hc'
    exact ⟨_, _, hs.chg (tk := s.toks) (U o') ho' fun b y hb e => hsb.extBut b y hb e, h o' hd'⟩
end
end
-- MSeq
section
set_option autoImplicit false
section
variable {C : Cx} {L : Loc} {n : Led} {Q : Value → Loc → Led → Prop} {QF : Flow → Loc → Led → Prop} {QB : Bool → Loc → Led → Prop} {QM : Value × List Value → Loc → Led → Prop}
theorem Sta.isList {s : Shared} {l : Addr} {xs : Array Value} {k : Nat} (hs : Sta C L n s) (h : (l, listOf xs k) ∈ n) : s.heap.IsList l xs := ⟨_, hs.mem h, rfl, _, rfl⟩
theorem W.getAppend {l : Addr} {xs : Array Value} {k : Nat} {pl} (hl : (l, listOf xs k) ∈ n) (h : QM (.builtin "list.append", [.ref l]) L n) : W C (getMethod (.ref l) (Str.ofString "append") pl) L n QM := fun s hs =>
  getMethod_list_append (hs.mem hl) rfl rfl ⟨_, _, hs, h⟩
theorem W.append {l : Addr} {xs : Array Value} {k : Nat} {x : Value} {N : Obj → Led} (U : ∀ o', UpdL l (listOf xs k) o' n (N o')) (hx : xs.size ≤ sizeLine) (h : ∀ k', Q .none L (N (listOf (xs.push x) k'))) : W C (call (.builtin "list.append") [.ref l, x]) L n Q := fun s hs =>
  wpAny_list_append_plain (hsz := hx) ⟨k, hs.mem (U (listOf xs k)).mem⟩ fun h' hpl hsb => by
    obtain ⟨k', hk'⟩ := hpl
    exact ⟨_, _, hs.chg (tk := s.toks) (U _) hk' fun b y hb e => hsb.extBut b y hb e, h k'⟩
theorem W.item {value slice l k u x} {xs : List Value} {m : Nat} (hl : (l, listOf xs.toArray m) ∈ n) (h0 : 0 ≤ k) (hk : k < 2 ^ 62) (hx : xs[k.toNat]? = some x) (h : Q x L n)
    (hs : subscripted slice false (.ref l) (.int k u) = operate [.ref l, .int k u] (getItem (.ref l) (.int k u)) := by with_unfolding_all rfl) (hg : ∀ r, letTemporaryGo value (.ref l) r = Pure.pure () := by intro _; with_unfolding_all rfl) : W C (subscriptTail value slice (.ref l) (.int k u)) L n Q := fun _ hs' =>
  item_listL (hs'.isList hl) h0 (Int.lt_trans hk (by decide)) hx ⟨_, _, hs', h⟩ hs hg
theorem W.itemLast {value slice l u x} {xs : List Value} {m : Nat} (hl : (l, listOf xs.toArray m) ∈ n) (hx : xs.getLast? = some x) (h : Q x L n)
    (hs : subscripted slice false (.ref l) (.int (-1) u) = operate [.ref l, .int (-1) u] (getItem (.ref l) (.int (-1) u)) := by with_unfolding_all rfl) (hg : ∀ r, letTemporaryGo value (.ref l) r = Pure.pure () := by intro _; with_unfolding_all rfl) : W C (subscriptTail value slice (.ref l) (.int (-1) u)) L n Q := fun _ hs' => by
  have hpos : 0 < xs.length := by
    cases xs with
    | nil => simp at hx
    | cons _ _ => simp
  refine subscriptTail_builtin (Heap.IsList.typeIs (hs'.isList hl)) slot_list_getitem.lookup (wpAny_getItem_list_neg (hs'.isList hl) (by decide) (by simp; omega) (by decide) ?_ ⟨_, _, hs', h⟩) hs hg
  rw [List.getLast?_eq_getElem?] at hx
  have e : ((-1 : Int) + (xs.toArray.size : Int)).toNat = xs.length - 1 := by simp; omega
  rw [e]
  simpa using hx
theorem W.lenL {l : Addr} {xs : Array Value} {k : Nat} (hl : (l, listOf xs k) ∈ n) (hx : xs.size < 2 ^ 62) (h : ∀ t, Q (.int xs.size t) L n) : W C (call (.builtin "len") [.ref l]) L n Q := fun _ hs =>
  PyProof.Rows.len_list (hs.isList hl) (by omega) ⟨_, _, hs.toks _, h _⟩
theorem W.fdiv {a b ta tb} (hb : b ≠ 0) (hp : Builtin.divisionGoesByPylong a b = false) (h : ∀ t, Q (.int (a.fdiv b) t) L n) : W C (binaryOp .FloorDiv (.int a ta) (.int b tb)) L n Q := fun _ hs => floordiv_int hb ⟨_, _, hs.toks _, h _⟩ (.inl hp)
theorem W.strItem {value slice : Expr} {x : Str} {t u : Tok} {k : Int} {c : Nat} (h0 : 0 ≤ k) (hc : x.cps.toList[k.toNat]? = some c) (hz : x.length ≤ 1000000) (h : ∀ t, Q (.str ⟨#[c]⟩ t) L n)
    (hs : subscripted slice false (.str x t) (.int k u) = operate [.str x t, .int k u] (getItem (.str x t) (.int k u)) := by with_unfolding_all rfl) (hg : ∀ r, letTemporaryGo value (.str x t) r = Pure.pure () := by intro _; with_unfolding_all rfl) : W C (subscriptTail value slice (.str x t) (.int k u)) L n Q := fun s hs' => by
  have hlt : k.toNat < x.length := by
    have := (List.getElem?_eq_some_iff.mp hc).1
    simpa [Str.length] using this
  refine subscriptTail_builtin (typeIs_str s x t) PyProof.Rows.slot_str_getitem.lookup (P.getItem_str ?_ ?_ ⟨_, _, hs'.toks _, h _⟩) hs hg
  · rw [Bool.or_eq_false_iff]; exact ⟨decide_eq_false (by omega), decide_eq_false (by omega)⟩
  · have e : seqIndex? k x.length = some k.toNat := by
      unfold seqIndex?
      simp only [Int.not_lt.mpr h0, if_false]
      rw [if_pos (by simp; omega)]
    rw [e]
    simpa using hc
theorem W.joinL {l : Addr} {xs : Array Value} {k : Nat} {x : Str} {t : Tok} {ys : List Str} (hl : (l, listOf xs k) ∈ n) (hi : StrsAre xs.toList ys) (hok : (ys.map (·.length)).sum + ys.length * x.length ≤ 16777216) (h : ∀ t, Q (.str (Txt.join x ys) t) L n) : W C (call (.builtin "str.join") [.str x t, .ref l]) L n Q := fun _ hs =>
  join_list (hs.isList hl) hi hok fun t' k' => ⟨_, _, hs.toks _, h _⟩
theorem W.getJoin {x t pl} (h : QM (.builtin "str.join", [.str x t]) L n) : W C (getMethod (.str x t) (Str.ofString "join") pl) L n QM := fun _ hs => by with_reducible exact GM.join ⟨_, _, hs, h⟩
theorem W.getLower {x t pl} (h : QM (.builtin "str.lower", [.str x t]) L n) : W C (getMethod (.str x t) (Str.ofString "lower") pl) L n QM := fun _ hs => by with_reducible exact GM.lower ⟨_, _, hs, h⟩
theorem W.getStarts {x t pl} (h : QM (.builtin "str.startswith", [.str x t]) L n) : W C (getMethod (.str x t) (Str.ofString "startswith") pl) L n QM := fun _ hs => by with_reducible exact GM.startswith ⟨_, _, hs, h⟩
theorem W.getEnds {x t pl} (h : QM (.builtin "str.endswith", [.str x t]) L n) : W C (getMethod (.str x t) (Str.ofString "endswith") pl) L n QM := fun _ hs => by with_reducible exact GM.endswith ⟨_, _, hs, h⟩
theorem W.lower {x : Str} {t} (hx : x.length ≤ 1000000) (h : ∀ t, Q (.str (Txt.lower x) t) L n) : W C (call (.builtin "str.lower") [.str x t]) L n Q := fun _ hs => PyProof.Rows.SCL.lower (by omega) fun _ => ⟨_, _, hs.toks _, h _⟩
theorem W.starts {x y : Str} {t u} (h : Q (.bool (Txt.startswith x y)) L n) : W C (call (.builtin "str.startswith") [.str x t, .str y u]) L n Q := fun _ hs => PySem.SC.startswith ⟨_, _, hs, h⟩
theorem W.ends {x y : Str} {t u} (h : Q (.bool (Txt.endswith x y)) L n) : W C (call (.builtin "str.endswith") [.str x t, .str y u]) L n Q := fun _ hs => PySem.SC.endswith ⟨_, _, hs, h⟩
theorem W.intOf {x : Str} {t : Tok} {i : Int} (hn : PySem.intText? x = some i) (hl : x.length ≤ 640) (h : ∀ t, Q (.int i t) L n) : W C (call (.type "int") [.str x t]) L n Q := fun _ hs => KIN.call_text hn hl ⟨_, _, hs.toks _, h _⟩
end
end
-- MRul
section
set_option autoImplicit false
theorem strsAt {xs : List Value} {us : List Str} (h : StrsAre xs us) : ∀ (j : Nat) (hj : j < xs.length), ∃ t, xs[j] = .str (us.getD j Str.empty) t := by
  induction h with
  | nil => intro j hj; simp at hj
  | cons y t _ ih =>
    intro j hj
    cases j with
    | zero => exact ⟨t, rfl⟩
    | succ j => simpa using ih j (by simpa using hj)
theorem str_cps {a b : Str} : (a.cps.toList == b.cps.toList) = (a == b) := by
  cases a with
  | mk a => cases b with
    | mk b =>
      rw [Bool.eq_iff_iff, beq_iff_eq, beq_iff_eq]
      exact ⟨fun h => congrArg Str.mk (Array.toList_inj.mp h), fun h => by injection h with h; rw [h]⟩
theorem all_range_eq : ∀ (us vs : List Str), us.length = vs.length → ((List.range us.length).all fun j => (us.getD j Str.empty).cps.toList == (vs.getD j Str.empty).cps.toList) = (us == vs)
  | [], [], _ => rfl
  | [], _ :: _, h => by simp at h
  | _ :: _, [], h => by simp at h
  | u :: us, v :: vs, h => by
    have ih := all_range_eq us vs (by simpa using h)
    rw [List.length_cons, List.range_succ_eq_map, List.all_cons, List.all_map]
    show ((u.cps.toList == v.cps.toList) && (List.range us.length).all fun j => (us.getD j Str.empty).cps.toList == (vs.getD j Str.empty).cps.toList) = (u == v && us == vs)
    rw [ih, str_cps]
section
variable {C : Cx} {L : Loc} {n : Led} {Q : Value → Loc → Led → Prop} {QF : Flow → Loc → Led → Prop} {QB : Bool → Loc → Led → Prop} {QM : Value × List Value → Loc → Led → Prop}
/-- a property of the class of an object: its getter is called -/
theorem W.getP {x dx Cl p : Addr} {f : Fn} {body : List Stmt} {es : List DictEntry} {k : Nat} {ns : List Str} {name : Str} {expr : Bool} (rest : List Value) (Lb : Loc) (ok : Ok C) (co : ClsOk Cl ns) (hx : (x, instObj Cl dx) ∈ n) (hd : (dx, dictOf es k) ∈ n)
    (ha : ∀ P, findIn (K P) (.ref Cl) name = some (some (.ref p))) (hn : ∀ P, specialIn (K P) (.ref p) "__get__" = some (some (.builtin "property.__get__"))) (ht : ∀ P, takesIn (K P) (.ref p) = some true) (hp : ∀ P, recIn (K P) p "property" = some (.ref f.fa :: rest))
    (fo : FnOk f body) (hroom : C.A.depth < recursionLimit) (hbind : bindArgs f.fd ⟨[.ref x], []⟩ = Pure.pure (f.ns.zip [.ref x])) (hLb : startL f.ns [.ref x] = Lb)
    (h : ∀ C' : Cx, Ok C' → C'.fn = f → C'.w = C.w → (C'.A.depth = C.A.depth + 1 ∧ C'.A.units = C.A.units + 4) → (C'.E = fun _ _ => False) → W C' (execs body C'.env) Lb n fun fl _ n' => handedIn (retOf fl) = true ∧ Q (retOf fl) L n') :
    W C (getAttr (.ref x) name expr) L n Q := fun s hs => by
  subst hLb
  refine get_prop hs.fr ok.k (hs.inst hx hd) (co.get _ _) (co.dict _) (ha _) (hn _) (ht _) (hp _) ?_
  refine codeAny_mono (codeW (Q := fun v L' n' => handedIn v = true ∧ Q v L' n') ok.hh ok fo hroom (hs.toks _) (BindsTo.of_eq hbind) (fun y hy => (List.of_mem_zip (a := y.1) (b := y.2) hy).1) (funext fun x => by rw [look2_start, lookup_reverse (zip_nodup fo.nd [_])]) fun C' o1 o2 o3 o4 o5 => h C' o1 o2 o3 ⟨o4.1, by rw [o4.2]⟩ o5) fun r s' g => ?_
  cases r with
  | error e => exact g.elim
  | ok fl =>
    cases fl with
    | ret v =>
      obtain ⟨L', n', hs', hv, q⟩ := g
      show wpAny _ _ (handedOut v) _ _ _
      exact handed_on hv ⟨L', n', hs', q⟩
    | _ => exact g.elim
-- lists of texts, and the empty list
theorem W.eqLs {l b : Addr} {xs ys : List Value} {k m : Nat} {us vs : List Str} (hu : C.A.units < 9000) (hl : (l, listOf xs.toArray k) ∈ n) (hb : (b, listOf ys.toArray m) ∈ n) (hx : StrsAre xs us) (hy : StrsAre ys vs) (h : Q (.bool (us == vs)) L n) : W C (compareOp .Eq (.ref l) (.ref b)) L n Q := fun s hs => by
  have hu' : C.A.units < cLine := by unfold cLine; omega
  have lx : xs.length = us.length := hx.length
  have ly : ys.length = vs.length := hy.length
  by_cases e : xs.length = ys.length
  · refine P.eq_list (n := k) (n2 := m) (e := fun j => (us.getD j Str.empty).cps.toList == (vs.getD j Str.empty).cps.toList) (hs.mem hl) (hs.mem hb) (by simpa using e) (fun j h1 h2 => ?_) hu' ⟨_, _, hs, ?_⟩
    · obtain ⟨t, e1⟩ := strsAt hx j (by simpa using h1)
      obtain ⟨u, e2⟩ := strsAt hy j (by simpa using h2)
      have f1 : xs.toArray[j] = xs[j]'(by simpa using h1) := by simp
      have f2 : ys.toArray[j] = ys[j]'(by simpa using h2) := by simp
      rw [f1, f2, e1, e2]
      exact SeqRoads2.EqGives.str _ _ _ _
    · have e' : us.length = vs.length := by rw [← lx, ← ly]; exact e
      rw [← all_range_eq us vs e', ← lx] at h
      simpa using h
  · refine P.eq_list_lengths (n := k) (n2 := m) (hs.mem hl) (hs.mem hb) (by simpa using e) hu' ⟨_, _, hs, ?_⟩
    have : (us == vs) = false := by
      cases q : us == vs with
      | false => rfl
      | true => exact absurd (by rw [lx, ly, beq_iff_eq.mp q]) e
    rw [this] at h; exact h
theorem W.eqNil {l b : Addr} {xs : List Value} {k m : Nat} (hu : C.A.units < 9000) (hl : (l, listOf xs.toArray k) ∈ n) (hb : (b, listOf ([] : List Value).toArray m) ∈ n) (h : Q (.bool xs.isEmpty) L n) : W C (compareOp .Eq (.ref l) (.ref b)) L n Q := fun s hs => by
  have hu' : C.A.units < cLine := by unfold cLine; omega
  cases xs with
  | nil => exact P.eq_list (n := k) (n2 := m) (e := fun _ => true) (hs.mem hl) (hs.mem hb) rfl (fun j h1 => absurd h1 (by simp)) hu' ⟨_, _, hs, h⟩
  | cons x xs => exact P.eq_list_lengths (n := k) (n2 := m) (hs.mem hl) (hs.mem hb) (by simp) hu' ⟨_, _, hs, h⟩
theorem W.neNil {l b : Addr} {xs : List Value} {k m : Nat} (hu : C.A.units < 9000) (hl : (l, listOf xs.toArray k) ∈ n) (hb : (b, listOf ([] : List Value).toArray m) ∈ n) (h : Q (.bool (!xs.isEmpty)) L n) : W C (compareOp .NotEq (.ref l) (.ref b)) L n Q := fun s hs => by
  have hu' : C.A.units < cLine := by unfold cLine; omega
  cases xs with
  | nil => exact SeqAt.RcNeAt.lists (e := fun _ => true) (hs.isList hl) (hs.isList hb) rfl hu' (fun j h1 => absurd h1 (by simp)) _ _ _ _ ⟨_, _, hs, h⟩
  | cons x xs => exact SeqAt.RcNeAt.lists_lengths (hs.isList hl) (hs.isList hb) (by simp) hu' _ _ _ _ ⟨_, _, hs, h⟩
-- slices of lists
theorem Sta.fresh {s : Shared} {a : Addr} {o : Obj} (hs : Sta C L n s) (ha : s.heap.objs.size ≤ a) : ((((a, o) :: n) ++ C.hid).map (·.1)).Nodup := by
  rw [List.cons_append, List.map_cons, List.nodup_cons]
  refine ⟨fun hm => ?_, hs.nd⟩
  obtain ⟨p, hp, e⟩ := List.mem_map.mp hm
  have := Heap.lt_size (hs.nw p hp).1
  rw [e] at this
  exact absurd this (Nat.not_lt.mpr ha)
theorem W.slLfrom {value lo p pos env} (h : W C (eval value env) L n fun o L₁ n₁ => W C (eval lo env) L₁ n₁ fun a L₂ n₂ =>
      ∃ l xs k i ui, o = .ref l ∧ a = .int i ui ∧ (l, listOf (List.toArray xs) k) ∈ n₂ ∧ 0 ≤ i ∧ xs.length ≤ sizeLine ∧ ∀ l', Q (.ref l') L₂ ((l', listOf (List.drop i.toNat xs).toArray 0) :: n₂))
    (hs : ∀ a b, subscripted (.Slice (some lo) none none p) false (.ref a) (.ref b) = operate [.ref b, .ref a] (getItem (.ref a) (.ref b)) := by intro _ _; with_unfolding_all rfl) (ht : ∀ a r, letTemporaryGo value (.ref a) r = Pure.pure () := by intro _ _; with_unfolding_all rfl) :
    W C (eval (.Subscript value (.Slice (some lo) none none p) pos) env) L n Q := fun s hs' =>
  Subscript_ (lift1 h hs' fun o s₁ L₁ n₁ h₁ k₁ => wpAny_Slice (wpAny_evalPart_some (lift1 k₁ h₁ fun a s₂ L₂ n₂ h₂ k₂ => wpAny_evalPart_none (wpAny_evalPart_none (by
    obtain ⟨l, xs, k, i, ui, rfl, rfl, hl, h0, hz, q⟩ := k₂
    refine slice_list h₂.fr h₂.nw (h₂.isList hl) (.int i ui) .none (fun h' F N => ⟨_, _, h₂.of (tk := s₂.toks) F ?_ ?_, q _⟩) (hs _ _) (ht _) (by simpa using hz)
    · have e := slicePick_from' xs.toArray i.toNat
      rw [show ((i.toNat : Nat) : Int) = i by omega] at e
      rw [e] at N
      exact N
    · exact h₂.fresh (Nat.le_succ _))))))
theorem W.slLto {value hi p pos env} (h : W C (eval value env) L n fun o L₁ n₁ => W C (eval hi env) L₁ n₁ fun a L₂ n₂ =>
      ∃ l xs k i ui, o = .ref l ∧ a = .int i ui ∧ (l, listOf (List.toArray xs) k) ∈ n₂ ∧ 0 ≤ i ∧ xs.length ≤ sizeLine ∧ ∀ l', Q (.ref l') L₂ ((l', listOf (List.take i.toNat xs).toArray 0) :: n₂))
    (hs : ∀ a b, subscripted (.Slice none (some hi) none p) false (.ref a) (.ref b) = operate [.ref b, .ref a] (getItem (.ref a) (.ref b)) := by intro _ _; with_unfolding_all rfl) (ht : ∀ a r, letTemporaryGo value (.ref a) r = Pure.pure () := by intro _ _; with_unfolding_all rfl) :
    W C (eval (.Subscript value (.Slice none (some hi) none p) pos) env) L n Q := fun s hs' =>
  Subscript_ (lift1 h hs' fun o s₁ L₁ n₁ h₁ k₁ => wpAny_Slice (wpAny_evalPart_none (wpAny_evalPart_some (lift1 k₁ h₁ fun a s₂ L₂ n₂ h₂ k₂ => wpAny_evalPart_none (by
    obtain ⟨l, xs, k, i, ui, rfl, rfl, hl, h0, hz, q⟩ := k₂
    refine slice_list h₂.fr h₂.nw (h₂.isList hl) .none (.int i ui) (fun h' F N => ⟨_, _, h₂.of (tk := s₂.toks) F ?_ ?_, q _⟩) (hs _ _) (ht _) (by simpa using hz)
    · have e := slicePick_upto' xs.toArray i.toNat
      rw [show ((i.toNat : Nat) : Int) = i by omega] at e
      rw [e] at N
      exact N
    · exact h₂.fresh (Nat.le_succ _))))))
end
end
-- MRe
section
set_option autoImplicit false
theorem re_slot : Slot "re.Pattern" "search" "re.Pattern.search" :=
  .of (owner := "re.Pattern") (n := "search") (by rw [typeLookup_type, builtinLookup_eq_fast]; kernel_rfl) (by decide +kernel) (by decide +kernel) (by decide +kernel)
    (.inr (by decide +kernel)) (by rw [isSubtype_type]; kernel_rfl)
theorem re_entry : entryFor table "re.Pattern.search" = some Builtin.«re.Pattern.search» := entryFor_of_tree (by kernel_rfl)
theorem re_args (a b : Value) : argsOk "re.Pattern.search" ⟨[a, b], []⟩ := by unfold argsOk; kernel_rfl
theorem re_ty : typeOf (.builtin "re.Pattern.search") = Pure.pure (.type "method_descriptor") := by show builtinType _ = _; rw [builtinType_eq_fast]; kernel_rfl
theorem re_pa : PlainAttrs "re.Pattern" := ⟨⟨"object.__getattribute__", by rw [typeLookup_type, builtinLookup_eq_fast]; kernel_rfl, by decide +kernel⟩, by rw [typeLookup_type, builtinLookup_eq_fast]; kernel_rfl⟩
noncomputable def ipNo : List String := ["a.b", "x.it's.b", "b", "it's.b", "x.a.b", ".b", ".a.b", ".it's.b"]
theorem ip_no : ∀ (P : Params) (S : Setting) (t : Tok), ∀ x ∈ ipNo, peek (K P) S (Builtin.«re.Pattern.search» ⟨[.ref 49, .str (Str.ofString x) t], []⟩) = some (.done (.ret .none)) := by
  intro P S t x hx
  simp only [ipNo, List.mem_cons, List.not_mem_nil, or_false] at hx
  rcases hx with rfl | rfl | rfl | rfl | rfl | rfl | rfl | rfl <;> kernel_rfl
noncomputable abbrev mtO (v : Value) (a : Addr) (l : Int) : Obj := { cls := .type "re.Match", data := .fields #[v, .ref 49, rawInt 0, rawInt l, rawInt (-1), .ref a] }
/-- what a tree says that reads, lays two objects and ends -/
noncomputable def peek2 {α : Type} (K : Frag) (S : Setting) (T : Sem α) (a b : Addr) : Option (Obj × Sem α) := (peekA K S T).bind fun p => if p.1.isFreed then none else (peekA K S (p.2 a)).map fun q => (q.1, q.2 b)
theorem ip_7 (P : Params) (S : Setting) (t : Tok) (a b : Addr) : peek2 (K P) S (Builtin.«re.Pattern.search» ⟨[.ref 49, .str (Str.ofString ".7") t], []⟩) a b = some (mtO (.str (Str.ofString ".7") t) a 2, Pure.pure (.done (.ret (.ref b)))) := by kernel_rfl
theorem ip_a7 (P : Params) (S : Setting) (t : Tok) (a b : Addr) : peek2 (K P) S (Builtin.«re.Pattern.search» ⟨[.ref 49, .str (Str.ofString "a.7") t], []⟩) a b = some (mtO (.str (Str.ofString "a.7") t) a 3, Pure.pure (.done (.ret (.ref b)))) := by kernel_rfl
section
variable {C : Cx} {L : Loc} {n : Led} {Q : Value → Loc → Led → Prop} {QB : Bool → Loc → Led → Prop} {QM : Value × List Value → Loc → Led → Prop}
theorem W.getSearch {a : Addr} {o : Obj} {pl} (ok : Ok C) (ha : ∀ P, (K P).lookup a = some o) (hc : o.cls = .type "re.Pattern") (hd : o.dict = none) (h : QM (.builtin "re.Pattern.search", [.ref a]) L n) : W C (getMethod (.ref a) (Str.ofString "search") pl) L n QM := fun s hs => by
  have ho : s.heap.get? a = some o := hs.fr.keep _ _ (ok.k _ _ (ha _))
  exact getMethod_builtin ⟨_, ho, hc⟩ re_pa re_slot re_ty (fun b e => by cases e; exact ⟨_, ho, hd⟩) ⟨_, _, hs, h⟩
theorem W.searchNo {a : Addr} {o : Obj} {x : Str} {t : Tok} (ok : Ok C) (ha : ∀ P, (K P).lookup a = some o) (hc : o.cls = .type "re.Pattern") (hp : ∀ P S, peek (K P) S (Builtin.«re.Pattern.search» ⟨[.ref a, .str x t], []⟩) = some (.done (.ret .none))) (h : Q .none L n) :
    W C (call (.builtin "re.Pattern.search") [.ref a, .str x t]) L n Q := fun s hs => by
  have ho : s.heap.get? a = some o := hs.fr.keep _ _ (ok.k _ _ (ha _))
  exact wpAny_call_entry re_slot ⟨_, ho, hc⟩ re_entry (fun Γ p _ => wp_of_peek (ok.k.keeps hs.fr.keep) ⟨_, rfl, _, _, hs, h⟩ _ (hp _ _)) (re_args _ _)
theorem W.searchYes {a : Addr} {o : Obj} {x : Str} {t : Tok} {l : Int} (ok : Ok C) (ha : ∀ P, (K P).lookup a = some o) (hc : o.cls = .type "re.Pattern")
    (hp : ∀ P S c b, peek2 (K P) S (Builtin.«re.Pattern.search» ⟨[.ref a, .str x t], []⟩) c b = some (mtO (.str x t) c l, Pure.pure (.done (.ret (.ref b))))) (h : ∀ b c oc, Q (.ref b) L ((b, mtO (.str x t) c l) :: (c, oc) :: n)) :
    W C (call (.builtin "re.Pattern.search") [.ref a, .str x t]) L n Q := fun s hs => by
  have ho : s.heap.get? a = some o := hs.fr.keep _ _ (ok.k _ _ (ha _))
  refine wpAny_call_entry re_slot ⟨_, ho, hc⟩ re_entry ?_ (re_args _ _)
  obtain ⟨p, e1, h1⟩ := Option.bind_eq_some_iff.mp (hp C.w.params ⟨P0, C.w.params⟩ 0 0)
  have hfr' : p.1.isFreed = false := by
    split at h1
    · cases h1
    · rename_i hfr; simpa using hfr
  have hq : ∀ c b, ∃ g, peekA (K C.w.params) ⟨P0, C.w.params⟩ (p.2 c) = some (mtO (.str x t) c l, g) ∧ g b = Pure.pure (.done (.ret (.ref b))) := fun c b => by
    have h2 := hp C.w.params ⟨P0, C.w.params⟩ c b
    unfold peek2 at h2
    rw [e1, Option.bind_some, hfr', if_neg (by decide)] at h2
    obtain ⟨q, e2, h2⟩ := Option.map_eq_some_iff.mp h2
    obtain ⟨h3, h4⟩ := Prod.mk.inj h2
    exact ⟨q.2, by rw [e2, ← h3], h4⟩
  refine wp_of_peekA (M := model P0 C.w) hs.fr hs.nw (ok.k.keeps hs.fr.keep) hfr' _ p.2 e1 fun h' F' N' hlt => ?_
  have hs1 : Sta C L ((s.heap.objs.size, p.1) :: n) { s with heap := h' } := ⟨F', N', hs.fresh (Nat.le_refl _), hs.gb, hs.os⟩
  obtain ⟨g, e2, e3⟩ := hq s.heap.objs.size h'.objs.size
  refine wp_of_peekA (M := model P0 C.w) hs1.fr hs1.nw (ok.k.keeps hs1.fr.keep) rfl _ g e2 fun h2 F2 N2 hlt2 => ?_
  have hs2 : Sta C L ((h'.objs.size, mtO (.str x t) s.heap.objs.size l) :: (s.heap.objs.size, p.1) :: n) { s with heap := h2 } := ⟨F2, N2, hs1.fresh (Nat.le_refl _), hs.gb, hs.os⟩
  show wpAny _ _ (g h'.objs.size) _ _ _
  rw [e3]
  exact wpAny_pure ⟨_, rfl, _, _, hs2, h _ _ _⟩
theorem mt_nobool : typeLookup (.type "re.Match") "__bool__" = Pure.pure none := by rw [typeLookup_type, builtinLookup_eq_fast]; kernel_rfl
theorem mt_nolen : typeLookup (.type "re.Match") "__len__" = Pure.pure none := by rw [typeLookup_type, builtinLookup_eq_fast]; kernel_rfl
theorem W.trMt {p : Addr} {o : Obj} (hp : (p, o) ∈ n) (hc : o.cls = .type "re.Match") (h : QB true L n) : W C (truthy (.ref p)) L n QB := fun s hs => by
  have hT : s.TypeIs (.ref p) "re.Match" := ⟨_, hs.mem hp, hc⟩
  unfold truthy
  first
    | refine wpAny_bind (wpAny_callSpecial?_none (name := Str.ofString "__bool__") hT mt_nobool ?_)
    | refine wpAny_bind (wpAny_pure (wpAny_bind (wpAny_callSpecial?_none (name := Str.ofString "__bool__") hT mt_nobool ?_)))
  first
    | refine wpAny_bind (wpAny_specialOf (name := Str.ofString "__len__") hT mt_nolen ?_)
    | refine wpAny_bind (wpAny_pure (wpAny_bind (wpAny_specialOf (name := Str.ofString "__len__") hT mt_nolen ?_)))
  exact wpAny_pure ⟨_, _, hs, h⟩
end
end
section
local macro_rules | `(tactic| walk_at "AT") => `(tactic| first | exact At.here | (apply At.there; walk_at "AT"))
local macro_rules | `(tactic| walk_at "SET") => `(tactic| first | exact SetAt.here | (apply SetAt.there; walk_at "SET"))
local macro_rules | `(tactic| walk_at "MEM") => `(tactic| first | exact List.Mem.head _ | (refine List.Mem.tail _ ?_; walk_at "MEM"))
local macro_rules | `(tactic| walk_at "UPD") => `(tactic| first | exact UpdL.here | (refine UpdL.there ?_; walk_at "UPD"))
local macro_rules | `(tactic| walk_at "EV") => `(tactic| first
  | refine W.nm (by assumption) (by assumption) (by walk_at "AT") ?_
  | refine W.attrN ?_
  | refine W.cstr fun _ => ?_
  | refine W.cint fun _ => ?_
  | refine W.cbool ?_
  | refine W.cnone ?_
  | refine W.mN fun _ => ?_
  | refine W.mA fun _ => ?_
  | refine W.mC fun _ => ?_
  | refine W.callN ?_
  | refine W.binop ?_
  | refine W.cmp ?_
  | refine W.unop ?_
  | refine W.ifexp ?_
  | refine W.tuple ?_
  | refine W.list ?_)
local macro_rules | `(tactic| walk_at "EX") => `(tactic| first
  | refine W.ifs ?_
  | refine W.assn ?_
  | refine W.assT ?_
  | refine W.assA ?_
  | refine W.augA ?_
  | refine W.ret ?_
  | refine W.ex (by assumption) ?_
  | refine W.brk ?_
  | refine W.cont ?_)
local macro_rules | `(tactic| walk_at "IT") => `(tactic| first
  | refine W.tcmp ?_
  | refine W.tnot ?_
  | refine W.tboolop ?_
  | refine W.tval ?_)
local macro_rules | `(tactic| walk_at "CO") => `(tactic| first
  | refine W.eqs ?_
  | refine W.ins ?_
  | refine W.eqi ?_
  | refine W.nes ?_
  | refine W.notins ?_
  | refine W.isnone ?_
  | refine W.isnotnone ?_
  | refine W.nei ?_
  | refine W.lti ?_
  | refine W.gti ?_
  | refine W.gei ?_)
local macro_rules | `(tactic| walk_at "W1") => `(tactic| with_reducible first
  | (show W _ (eval _ _) _ _ _; walk_at "EV")
  | (show W _ (exec _ _) _ _ _; walk_at "EX")
  | (show W _ (execs _ _) _ _ _; first | refine W.cons ?_ | refine W.nil ?_)
  | (show W _ (isTrue _ _ _) _ _ _; walk_at "IT")
  | (show W _ (compareOp _ _ _) _ _ _; walk_at "CO")
  | (show W _ (truthy _) _ _ _; first | refine W.trb ?_ | refine W.tri ?_ | refine W.trs (by omega) ?_)
  | (show W _ (storeName _ _ _) _ _ _; refine W.st (by assumption) (by assumption) (by walk_at "SET") ?_)
  | (show Seq _ _ _ _ _ _ _; first | refine seqn ?_ | refine seqr ?_ | refine seqb ?_ | refine seqc ?_)
  | (show W _ (spliced _) _ _ _; first | refine W.spc ?_ | refine W.spn ?_)
  | (show W _ (allTrue _ _ _) _ _ _; first | refine W.tand ?_ | refine W.tor ?_ | refine W.tandn ?_ | refine W.torn ?_)
  | (show W _ (binaryOp _ _ _) _ _ _; first | refine W.add fun _ => ?_ | refine W.sub fun _ => ?_ | refine W.band fun _ => ?_ | refine W.bor fun _ => ?_)
  | (show W _ (callWith _ _ _ _ _) _ _ _; first | refine W.ct ?_ | refine W.cb ?_)
  | (show _ ∧ (∀ _, _); refine ⟨by unfold sizeLine; simp, fun _ => ?_⟩)
  | refine W.neg fun _ => ?_
  | refine W.intInt ?_)
local macro_rules | `(tactic| walk_at "GB") => `(tactic| first
  | exact gt_type (by assumption) | exact gt_int (by assumption) | exact gt_len (by assumption) | exact gt_isinstance (by assumption) | exact gt_str (by assumption) | exact gt_list (by assumption) | exact gt_StopIteration (by assumption) | exact gt_object (by assumption) | exact gt_enumerate (by assumption) | exact gt_range (by assumption))
local macro_rules | `(tactic| walk_at "BB") => `(tactic| first
  | exact bt_type (by assumption) | exact bt_int (by assumption) | exact bt_len (by assumption) | exact bt_isinstance (by assumption) | exact bt_str (by assumption) | exact bt_list (by assumption) | exact bt_StopIteration (by assumption) | exact bt_object (by assumption) | exact bt_enumerate (by assumption) | exact bt_range (by assumption))
local macro_rules | `(tactic| walk_at "BL") => `(tactic| refine W.bl (by assumption) (by assumption) (by walk_at "MEM") (by walk_at "GB") (by walk_at "BB") ?_)
local macro_rules | `(tactic| walk_at "WS") => `(tactic| repeat walk_at "W1")
-- MU1
section
set_option maxHeartbeats 0
set_option autoImplicit false
noncomputable def ipYes : List String := [".7", "a.7"]
noncomputable def hdn (x : String) : Bool := !(ipYes.contains x)
theorem hdn_no : ∀ x ∈ ipNo, hdn x = true := by decide +kernel
noncomputable def eqS (a b : String) : Bool := (Str.ofString a).cps.toList == (Str.ofString b).cps.toList
/-- what user_domain_match says of lowered texts -/
noncomputable def udm (a b : String) : Bool :=
  if !(hdn a && hdn b) then eqS a b
  else if Txt.startswith (Str.ofString b) (Str.ofString ".") && Txt.endswith (Str.ofString a) (Str.ofString b) then true
  else !(Txt.startswith (Str.ofString b) (Str.ofString ".")) && eqS a b
section
variable {C : Cx} {L : Loc} {n : Led} {Q : Value → Loc → Led → Prop}
theorem W.trn {QB : Bool → Loc → Led → Prop} (h : QB false L n) : W C (truthy .none) L n QB := fun _ hs => wpAny_pure ⟨_, _, hs, h⟩
theorem s56 {x : String} {t : Tok} (ok : Ok C) (hr : C.A.depth < 900) (hx : x ∈ ipNo ++ ipYes) (h : ∀ n', Q (.bool (hdn x)) L (n' ++ n)) : W C (call (.ref 56) [.str (Str.ofString x) t]) L n Q := by
  refine W.cf (f := f56) [some (.str (Str.ofString x) t)] ok fo56 (by show _ < 1000; omega) (by kernel_rfl) rfl fun C' ok' hf hw hd hu => ?_
  have hns : C'.fn.ns = [Str.ofString "text"] := congrArg Fn.ns hf
  have hgn : C'.fn.gns = f56.gns := congrArg Fn.gns hf
  conv => arg 2; arg 1; whnf
  walk_at "WS"
  refine W.gl ok' hgn (by walk_at "MEM") (gt_IPV4_RE ok') ?_
  refine W.getSearch ok' (o := o49) (fun _ => by kernel_rfl) rfl rfl ?_
  refine W.cbm ?_
  walk_at "WS"
  rcases List.mem_append.mp hx with hx | hx
  · refine W.searchNo ok' (o := o49) (fun _ => by kernel_rfl) rfl (fun P S => ip_no P S _ x hx) ?_
    walk_at "WS"
    refine W.trn ?_
    refine iteF rfl ?_
    walk_at "WS"
    have := h []
    rw [hdn_no x hx] at this
    exact this
  · simp only [ipYes, List.mem_cons, List.not_mem_nil, or_false] at hx
    rcases hx with rfl | rfl
    · refine W.searchYes ok' (o := o49) (fun _ => by kernel_rfl) rfl (fun P S a b => ip_7 P S _ a b) fun b c oc => ?_
      refine W.trMt (.head _) rfl ?_
      refine iteT rfl ?_
      walk_at "WS"
      exact h [_, _]
    · refine W.searchYes ok' (o := o49) (fun _ => by kernel_rfl) rfl (fun P S a b => ip_a7 P S _ a b) fun b c oc => ?_
      refine W.trMt (.head _) rfl ?_
      refine iteT rfl ?_
      walk_at "WS"
      exact h [_, _]
theorem s63 {A B : Str} {a b : String} {ta tb : Tok} (ok : Ok C) (hr : C.A.depth < 890) (hA : Txt.lower A = Str.ofString a) (hB : Txt.lower B = Str.ofString b) (ha : a ∈ ipNo ++ ipYes) (hb : b ∈ ipNo ++ ipYes) (lA : A.length ≤ 100) (lB : B.length ≤ 100)
    (h : ∀ n', Q (.bool (udm a b)) L (n' ++ n)) : W C (call (.ref 63) [.str A ta, .str B tb]) L n Q := by
  refine W.cf (f := f63) [some (.str A ta), some (.str B tb), none] ok fo63 (by show _ < 1000; omega) (by kernel_rfl) rfl fun C' ok' hf hw hd hu => ?_
  have hns : C'.fn.ns = [Str.ofString "A", Str.ofString "B", Str.ofString "initial_dot"] := congrArg Fn.ns hf
  have hgn : C'.fn.gns = f63.gns := congrArg Fn.gns hf
  conv => arg 2; arg 1; whnf
  walk_at "WS"
  with_reducible refine W.getLower ?_
  refine W.cbm0 ?_
  refine W.lower (by omega) fun t1 => ?_
  rw [hA]
  walk_at "WS"
  with_reducible refine W.getLower ?_
  refine W.cbm0 ?_
  refine W.lower (by omega) fun t2 => ?_
  rw [hB]
  walk_at "WS"
  refine W.gl ok' hgn (by walk_at "MEM") (gt_liberal_is_HDN ok') ?_
  refine W.cw ok' (fo56.keep _) ?_
  walk_at "WS"
  refine s56 ok' (by omega) ha fun n1 => ?_
  walk_at "WS"
  unfold udm at h
  have tail : ∀ n2, (hdn a && hdn b) = true → W C' (execs ((bodyOf (stAt 6)).drop 3) C'.env) [some (.str (Str.ofString a) t1), some (.str (Str.ofString b) t2), none] (n2 ++ n) (fun fl _ n' => Q (retOf fl) L n') := by
    intro n2 hab
    simp only [hab] at h
    conv => arg 2; arg 1; whnf
    walk_at "WS"
    with_reducible refine W.getStarts ?_
    refine W.cbm ?_
    walk_at "WS"
    refine W.starts ?_
    walk_at "WS"
    cases qs : Txt.startswith (Str.ofString b) (Str.ofString ".") with
    | true =>
      refine iteT rfl ?_
      walk_at "WS"
      with_reducible refine W.getEnds ?_
      refine W.cbm ?_
      walk_at "WS"
      refine W.ends ?_
      walk_at "WS"
      cases qe : Txt.endswith (Str.ofString a) (Str.ofString b) with
      | true =>
        refine iteT rfl ?_
        walk_at "WS"
        refine iteT rfl ?_
        walk_at "WS"
        have := h n2
        rw [qs, qe] at this
        exact this
      | false =>
        refine iteF rfl ?_
        refine iteF rfl ?_
        walk_at "WS"
        refine iteF rfl ?_
        refine iteF rfl ?_
        walk_at "WS"
        have := h n2
        rw [qs, qe] at this
        exact this
    | false =>
      refine iteF rfl ?_
      refine iteF rfl ?_
      walk_at "WS"
      refine iteT rfl ?_
      walk_at "WS"
      have := h n2
      rw [qs] at this
      cases qq : eqS a b with
      | true =>
        refine iteT qq ?_
        walk_at "WS"
        refine iteT rfl ?_
        walk_at "WS"
        rw [qq] at this
        exact this
      | false =>
        refine iteF qq ?_
        refine iteF rfl ?_
        walk_at "WS"
        rw [qq] at this
        exact this
  have eqs : ∀ n2, (hdn a && hdn b) = false → W C' (execs (match (bodyOf (stAt 6)).drop 2 with | Stmt.If _ b _ _ :: _ => b | _ => []) C'.env) [some (.str (Str.ofString a) t1), some (.str (Str.ofString b) t2), none] (n2 ++ n) (Seq C' C'.env ((bodyOf (stAt 6)).drop 3) (fun fl _ n' => Q (retOf fl) L n')) := by
    intro n2 hab
    simp only [hab] at h
    conv => arg 2; arg 1; whnf
    walk_at "WS"
    have := h n2
    cases qq : eqS a b with
    | true =>
      refine iteT qq ?_
      walk_at "WS"
      rw [qq] at this
      exact this
    | false =>
      refine iteF qq ?_
      walk_at "WS"
      rw [qq] at this
      exact this
  cases qa : hdn a with
  | false =>
    refine iteF rfl ?_
    refine iteT rfl ?_
    exact eqs n1 (by rw [qa]; rfl)
  | true =>
    refine iteT rfl ?_
    walk_at "WS"
    refine W.gl ok' hgn (by walk_at "MEM") (gt_liberal_is_HDN ok') ?_
    refine W.cw ok' (fo56.keep _) ?_
    walk_at "WS"
    refine s56 ok' (by omega) hb fun n2 => ?_
    walk_at "WS"
    cases qb : hdn b with
    | false =>
      refine iteF rfl ?_
      refine iteT rfl ?_
      have := eqs (n2 ++ n1) (by rw [qa, qb]; rfl)
      rw [List.append_assoc] at this
      exact this
    | true =>
      refine iteT rfl ?_
      walk_at "WS"
      refine iteF rfl ?_
      refine W.nil ?_
      refine seqn ?_
      have := tail (n2 ++ n1) (by rw [qa, qb]; rfl)
      rw [List.append_assoc] at this
      exact this
end
end
-- ML1
section
set_option maxHeartbeats 0
set_option autoImplicit false
noncomputable abbrev strv (t : Tok) (s : String) : Value := .str (Str.ofString s) t
/-- dotted, labels of the eight zones; labels of the six hosts -/
noncomputable def zoneL : List (Bool × List String) := [(true, ["b"]), (true, ["a", "b"]), (false, ["a", "b"]), (true, ["it's", "B"]), (false, ["it's", "b"]), (true, ["7"]), (false, ["a", "7"]), (false, ["B"])]
noncomputable def hostL : List (List String) := [["A", "b"], ["x", "IT'S", "b"], ["a", "7"], ["b"], ["it's", "b"], ["x", "A", "b"]]
/-- a list of texts in the ledger -/
noncomputable def StrsIn (n : Led) (l : Addr) (ss : List String) : Prop := ∃ vs k, (l, listOf (List.toArray vs) k) ∈ n ∧ StrsAre vs (ss.map Str.ofString)
noncomputable def ZoneIn (n : Led) (v : Value) (z : Bool × List String) : Prop := ∃ t l, v = .ref t ∧ (t, tupOf [.bool z.1, .ref l]) ∈ n ∧ StrsIn n l z.2
inductive All2 {α β : Type} (R : α → β → Prop) : List α → List β → Prop
  | nil : All2 R [] []
  | cons {a b l m} : R a b → All2 R l m → All2 R (a :: l) (b :: m)
section
variable {C : Cx} {L : Loc} {n : Led} {Q : Value → Loc → Led → Prop}
theorem s839 (ok : Ok C) (hr : C.A.depth < 900) (h : ∀ Z n' vs k, (Z, listOf (List.toArray vs) k) ∈ n' → All2 (ZoneIn n') vs zoneL → Q (.ref Z) L (n' ++ n)) : W C (call (.ref 839) []) L n Q := by
  refine W.cf (f := f839) [] ok fo839 (by show _ < 1000; omega) (by kernel_rfl) rfl fun C' ok' hf hw hd hu => ?_
  conv => arg 2; arg 1; whnf
  walk_at "WS"
  exact h _ [_, _, _, _, _, _, _, _, _, _, _, _, _, _, _, _, _] [_, _, _, _, _, _, _, _] 0 (.head _) (.cons ⟨_, _, rfl, by walk_at "MEM", _, _, by walk_at "MEM", (.cons _ _ .nil)⟩ (.cons ⟨_, _, rfl, by walk_at "MEM", _, _, by walk_at "MEM", (.cons _ _ (.cons _ _ .nil))⟩ (.cons ⟨_, _, rfl, by walk_at "MEM", _, _, by walk_at "MEM", (.cons _ _ (.cons _ _ .nil))⟩ (.cons ⟨_, _, rfl, by walk_at "MEM", _, _, by walk_at "MEM", (.cons _ _ (.cons _ _ .nil))⟩ (.cons ⟨_, _, rfl, by walk_at "MEM", _, _, by walk_at "MEM", (.cons _ _ (.cons _ _ .nil))⟩ (.cons ⟨_, _, rfl, by walk_at "MEM", _, _, by walk_at "MEM", (.cons _ _ .nil)⟩ (.cons ⟨_, _, rfl, by walk_at "MEM", _, _, by walk_at "MEM", (.cons _ _ (.cons _ _ .nil))⟩ (.cons ⟨_, _, rfl, by walk_at "MEM", _, _, by walk_at "MEM", (.cons _ _ .nil)⟩ .nil))))))))
theorem s846 (ok : Ok C) (hr : C.A.depth < 900) (h : ∀ Z n' vs k, (Z, listOf (List.toArray vs) k) ∈ n' → All2 (fun v ss => ∃ l, v = .ref l ∧ StrsIn n' l ss) vs hostL → Q (.ref Z) L (n' ++ n)) : W C (call (.ref 846) []) L n Q := by
  refine W.cf (f := f846) [] ok fo846 (by show _ < 1000; omega) (by kernel_rfl) rfl fun C' ok' hf hw hd hu => ?_
  conv => arg 2; arg 1; whnf
  walk_at "WS"
  exact h _ [_, _, _, _, _, _, _] [_, _, _, _, _, _] 0 (.head _) (.cons ⟨_, rfl, _, _, by walk_at "MEM", (.cons _ _ (.cons _ _ .nil))⟩ (.cons ⟨_, rfl, _, _, by walk_at "MEM", (.cons _ _ (.cons _ _ (.cons _ _ .nil)))⟩ (.cons ⟨_, rfl, _, _, by walk_at "MEM", (.cons _ _ (.cons _ _ .nil))⟩ (.cons ⟨_, rfl, _, _, by walk_at "MEM", (.cons _ _ .nil)⟩ (.cons ⟨_, rfl, _, _, by walk_at "MEM", (.cons _ _ (.cons _ _ .nil))⟩ (.cons ⟨_, rfl, _, _, by walk_at "MEM", (.cons _ _ (.cons _ _ (.cons _ _ .nil)))⟩ .nil))))))
end
end
-- ML2
section
set_option maxHeartbeats 0
set_option autoImplicit false
theorem All2.len {α β : Type} {R : α → β → Prop} {l : List α} {m : List β} (h : All2 R l m) : l.length = m.length := by
  induction h with
  | nil => rfl
  | cons _ _ ih => simp [ih]
theorem All2.get {α β : Type} {R : α → β → Prop} {l : List α} {m : List β} (h : All2 R l m) : ∀ {i : Nat} {a : α}, l[i]? = some a → ∃ b, m[i]? = some b ∧ R a b := by
  induction h with
  | nil => intro i a e; simp at e
  | cons r _ ih =>
    intro i a e
    cases i with
    | zero => simp at e; subst e; exact ⟨_, rfl, r⟩
    | succ i => exact ih (by simpa using e)
theorem All2.get' {α β : Type} {R : α → β → Prop} {l : List α} {m : List β} (h : All2 R l m) : ∀ {i : Nat} {b : β}, m[i]? = some b → ∃ a, l[i]? = some a ∧ R a b := by
  induction h with
  | nil => intro i a e; simp at e
  | cons r _ ih =>
    intro i a e
    cases i with
    | zero => simp at e; subst e; exact ⟨_, rfl, r⟩
    | succ i => exact ih (by simpa using e)
theorem All2.mono {α β : Type} {R S : α → β → Prop} {l : List α} {m : List β} (h : All2 R l m) (k : ∀ a b, R a b → S a b) : All2 S l m := by
  induction h with
  | nil => exact .nil
  | cons r _ ih => exact .cons (k _ _ r) ih
theorem All2.snoc {α β : Type} {R : α → β → Prop} {l : List α} {m : List β} {a : α} {b : β} (h : All2 R l m) (r : R a b) : All2 R (l ++ [a]) (m ++ [b]) := by
  induction h with
  | nil => exact .cons r .nil
  | cons q _ ih => exact .cons q ih
theorem strsSnoc {vs : List Value} {ss : List Str} {x : Str} {t : Tok} (h : StrsAre vs ss) : StrsAre (vs ++ [.str x t]) (ss ++ [x]) := by
  induction h with
  | nil => exact .cons _ _ .nil
  | cons y u _ ih => exact .cons _ _ ih
theorem StrsIn.mono {n n' : Led} {l : Addr} {ss : List String} (h : StrsIn n l ss) (k : ∀ p ∈ n, p ∈ n') : StrsIn n' l ss := let ⟨vs, m, a, b⟩ := h; ⟨vs, m, k _ a, b⟩
theorem ZoneIn.mono {n n' : Led} {v : Value} {z : Bool × List String} (h : ZoneIn n v z) (k : ∀ p ∈ n, p ∈ n') : ZoneIn n' v z := let ⟨t, l, a, b, c⟩ := h; ⟨t, l, a, k _ b, c.mono k⟩
/-- a rule: plus, place, mask -/
structure Rule where
  plus : Bool
  place : Nat
  mask : Nat
noncomputable def RuleIn (n : Led) (v : Value) (r : Rule) : Prop := ∃ t tp tm, v = .ref t ∧ (t, tupOf [.bool r.plus, .int r.place tp, .int r.mask tm]) ∈ n
theorem RuleIn.mono {n n' : Led} {v : Value} {r : Rule} (h : RuleIn n v r) (k : ∀ p ∈ n, p ∈ n') : RuleIn n' v r := let ⟨t, tp, tm, a, b⟩ := h; ⟨t, tp, tm, a, k _ b⟩
noncomputable def decS (i : Int) : Str := Str.ofString (toString i)
noncomputable def figS (m : Int) : Str := decS (m.fdiv 512) ++ decS ((m.fdiv 64).fmod 8) ++ decS ((m.fdiv 8).fmod 8) ++ decS (m.fmod 8)
noncomputable def signS (p : Bool) : Str := if p then Str.ofString "+" else Str.ofString "-"
noncomputable def zoneS (z : Bool × List String) : Str := (if z.1 then Str.ofString "." else Str.ofString "") ++ Txt.join (Str.ofString ".") (z.2.map Str.ofString)
noncomputable def wordsS (rs : List Rule) : List Str := rs.flatMap fun r => [signS r.plus ++ figS r.mask, zoneS (zoneL.getD r.place (false, []))]
structure RuleOk (r : Rule) : Prop where
  place : r.place < 8
  mask : r.mask < 4096
theorem logS {i : Int} (h : i.natAbs < 65536) : i.natAbs.log2 < 1920 := by
  by_cases e : i.natAbs = 0
  · rw [e]; decide
  · rw [Nat.log2_lt e]
    exact Nat.lt_trans h (by decide +kernel)
theorem fd_bd {m : Nat} {b : Int} (hm : m < 65536) (hb : 0 < b) : (((m : Int).fdiv b)).natAbs < 65536 := by
  rw [Int.fdiv_eq_ediv_of_nonneg _ (by omega)]
  have h1 := Int.ediv_nonneg (a := (m : Int)) (by omega) (show 0 ≤ b by omega)
  have h2 := Int.ediv_le_self (a := (m : Int)) b (by omega)
  omega
theorem fm_bd {a : Int} : (a.fmod 8).natAbs < 65536 := by
  rw [Int.fmod_eq_emod_of_nonneg _ (by omega)]
  omega
theorem dec_len : ∀ d : Fin 8, (Str.ofString (toString ((d : Nat) : Int))).length = 1 := by decide +kernel
theorem dec_len' {i : Int} (h0 : 0 ≤ i) (h8 : i < 8) : (Str.ofString (toString i)).length = 1 := by
  have := dec_len ⟨i.toNat, by omega⟩
  rwa [show ((i.toNat : Nat) : Int) = i by omega] at this
theorem fd_512 {m : Nat} (hm : m < 4096) : 0 ≤ (m : Int).fdiv 512 ∧ (m : Int).fdiv 512 < 8 := by
  rw [Int.fdiv_eq_ediv_of_nonneg _ (by omega)]
  omega
theorem fm_8 (a : Int) : 0 ≤ a.fmod 8 ∧ a.fmod 8 < 8 := by
  rw [Int.fmod_eq_emod_of_nonneg _ (by omega)]
  omega
theorem zone_fit : ∀ z ∈ zoneL, ((z.2.map Str.ofString).map (·.length)).sum + (z.2.map Str.ofString).length * (Str.ofString ".").length ≤ 100 ∧ (Txt.join (Str.ofString ".") (z.2.map Str.ofString)).length ≤ 100 := by decide +kernel
theorem zone_mem {p : Nat} (h : p < 8) : zoneL.getD p (false, []) ∈ zoneL := by
  have : p < zoneL.length := h
  rw [List.getD_eq_getElem?_getD, List.getElem?_eq_getElem this]
  exact List.getElem_mem this
theorem words_len (rs : List Rule) : (wordsS rs).length = 2 * rs.length := by
  induction rs with
  | nil => rfl
  | cons r rs ih => simp only [wordsS, List.flatMap_cons, List.length_append, List.length_cons, List.length_nil] at ih ⊢; omega
theorem words_snoc (rs : List Rule) (r : Rule) : wordsS (rs ++ [r]) = wordsS rs ++ [signS r.plus ++ figS r.mask] ++ [zoneS (zoneL.getD r.place (false, []))] := by simp [wordsS]
section
variable {C : Cx} {L : Loc} {n : Led} {Q : Value → Loc → Led → Prop}
theorem W.ifStr {b : Bool} {x y : Str} {k k' p p' env} (h : ∀ t, Q (.str (if b then x else y) t) L n) : if b = true then W C (eval (.Constant (.str x) k p) env) L n Q else W C (eval (.Constant (.str y) k' p') env) L n Q := by
  cases b
  · exact W.cstr h
  · exact W.cstr h
theorem s853 {R : Addr} {vs : List Value} {kk : Nat} {rs : List Rule} (ok : Ok C) (hr : C.A.depth < 890) (hR : (R, listOf vs.toArray kk) ∈ n) (hrs : All2 (RuleIn n) vs rs) (hok : ∀ r ∈ rs, RuleOk r) (hlen : rs.length ≤ 8)
    (h : ∀ Wd n' ws k, (Wd, listOf (List.toArray ws) k) ∈ n' → StrsAre ws (wordsS rs) → Q (.ref Wd) L (n' ++ n)) : W C (call (.ref 853) [.ref R]) L n Q := by
  refine W.cf (f := f853) [some (.ref R), none, none, none, none, none, none, none, none] ok fo853 (by show _ < 1000; omega) (by kernel_rfl) rfl fun C' ok' hf hw hd hu => ?_
  have hns : C'.fn.ns = [Str.ofString "rules", Str.ofString "zones", Str.ofString "words", Str.ofString "plus", Str.ofString "place", Str.ofString "mask", Str.ofString "dotted", Str.ofString "labels", Str.ofString "figures"] := congrArg Fn.ns hf
  have hgn : C'.fn.gns = f853.gns := congrArg Fn.gns hf
  conv => arg 2; arg 1; whnf
  walk_at "WS"
  refine W.gl ok' hgn (by walk_at "MEM") (gt_ulaw_zones ok') ?_
  refine W.cw0 ok' (fo839.keep _) ?_
  refine s839 ok' (by omega) fun Z nz zs kz hZ hzs => ?_
  walk_at "WS"
  rename_i Wd
  refine W.forI ok' hu ?_
  walk_at "WS"
  refine W.iterL ok' (.tail _ (List.mem_append_right _ hR)) fun I o ho It => ?_
  refine ⟨I, _, _, _, _, fun i L n1 => ∃ a b c d e g ws k, L = [some (.ref R), some (.ref Z), some (.ref Wd), a, b, c, d, e, g] ∧ n1 = (Wd, listOf (List.toArray ws) k) :: (nz ++ n) ∧ StrsAre ws (wordsS (rs.take i)), [(I, o)], _, rfl, rfl, It, ⟨o, rfl, ho⟩,
    ⟨_, _, _, _, _, _, [], 0, rfl, rfl, .nil⟩, ?_, ?_, ?_⟩
  · rintro i L n1 ⟨a, b, c, d, e, g, ws, k, rfl, rfl, hws⟩
    exact .tail _ (List.mem_append_right _ hR)
  · rintro L1 n1 ⟨a, b, c, d, e, g, ws, k, rfl, rfl, hws⟩
    walk_at "WS"
    have e1 : (List.toArray vs).size = rs.length := by simp [hrs.len]
    rw [e1, List.take_length] at hws
    exact h Wd ((Wd, listOf (List.toArray ws) k) :: nz) ws k (.head _) hws
  · rintro C2 hid ok2 i v q L1 n1 hi ⟨rfl, hv⟩ ⟨a, b, c, d, e, g, ws, k, rfl, rfl, hws⟩
    have hns : C2.fn.ns = [Str.ofString "rules", Str.ofString "zones", Str.ofString "words", Str.ofString "plus", Str.ofString "place", Str.ofString "mask", Str.ofString "dotted", Str.ofString "labels", Str.ofString "figures"] := (congrArg Fn.ns hid.fn).trans hns
    have hgn : C2.fn.gns = f853.gns := (congrArg Fn.gns hid.fn).trans hgn
    obtain ⟨ru, hru, t, tp, tm, rfl, ht⟩ := hrs.get (i := i) (by simpa using hv)
    have rok := hok ru (List.mem_of_getElem? hru)
    obtain ⟨zv, hzv, tz, lz, rfl, htz, us, ku, hlz, hus⟩ := hzs.get' (i := ru.place) (b := zoneL.getD ru.place (false, [])) (by
      have : ru.place < zoneL.length := rok.place
      rw [List.getElem?_eq_getElem this, List.getD_eq_getElem?_getD, List.getElem?_eq_getElem this]; rfl)
    refine W.asgT ok2 (.inl (.tail _ (List.mem_append_right _ ht))) ⟨rfl, _, rfl⟩ ?_
    refine W.aioN ?_
    walk_at "WS"
    refine W.aioN ?_
    walk_at "WS"
    refine W.aioN ?_
    walk_at "WS"
    refine W.aioE ?_
    walk_at "WS"
    refine W.subs ?_
    walk_at "WS"
    refine W.item (.tail _ (List.mem_append_left _ hZ)) (by omega) (by have := rok.place; omega) (by simpa using hzv) ?_
    refine W.asgT ok2 (.inl (.tail _ (List.mem_append_left _ htz))) ⟨rfl, _, rfl⟩ ?_
    refine W.aioN ?_
    walk_at "WS"
    refine W.aioN ?_
    walk_at "WS"
    refine W.aioE ?_
    walk_at "WS"
    walk_at "BL"
    walk_at "WS"
    have hm := rok.mask
    have l3 := dec_len' (fd_512 hm).1 (fd_512 hm).2
    have lm : ∀ a : Int, (Str.ofString (toString (a.fmod 8))).length = 1 := fun a => dec_len' (fm_8 a).1 (fm_8 a).2
    refine W.fdiv (by decide) (PyProof.noPylong_small (by decide)) fun t1 => ?_
    walk_at "WS"
    refine W.strInt (logS (fd_bd (by omega) (by decide))) fun t2 => ?_
    walk_at "WS"
    walk_at "BL"
    walk_at "WS"
    refine W.fdiv (by decide) (PyProof.noPylong_small (by decide)) fun t3 => ?_
    walk_at "WS"
    refine W.mod (by decide) fun t4 => ?_
    walk_at "WS"
    refine W.strInt (logS fm_bd) fun t5 => ?_
    refine W.adds (by rw [l3, lm]; unfold sizeLine; decide) fun t6 => ?_
    walk_at "WS"
    walk_at "BL"
    walk_at "WS"
    refine W.fdiv (by decide) (PyProof.noPylong_small (by decide)) fun t7 => ?_
    walk_at "WS"
    refine W.mod (by decide) fun t8 => ?_
    walk_at "WS"
    refine W.strInt (logS fm_bd) fun t9 => ?_
    refine W.adds (by rw [Str.length_append, l3, lm, lm]; unfold sizeLine; decide) fun t10 => ?_
    walk_at "WS"
    walk_at "BL"
    walk_at "WS"
    refine W.mod (by decide) fun t11 => ?_
    walk_at "WS"
    refine W.strInt (logS fm_bd) fun t12 => ?_
    refine W.adds (by rw [Str.length_append, Str.length_append, l3, lm, lm, lm]; unfold sizeLine; decide) fun t13 => ?_
    walk_at "WS"
    refine W.getAppend (.head _) ?_
    refine W.cbm ?_
    walk_at "WS"
    refine W.ifStr fun t14 => ?_
    walk_at "WS"
    refine W.adds ?_ fun t15 => ?_
    · rw [Str.length_append, Str.length_append, Str.length_append, l3, lm, lm, lm]
      cases ru.plus <;> (unfold sizeLine; decide)
    walk_at "WS"
    have hl1 : ws.length ≤ 16 := by
      rw [hws.length, words_len]
      have : (rs.take i).length ≤ rs.length := by rw [List.length_take]; omega
      omega
    refine W.append (N := fun o => (Wd, o) :: (nz ++ n)) (fun _ => .here) (by simp; unfold sizeLine; omega) fun k1 => ?_
    walk_at "WS"
    refine W.getAppend (.head _) ?_
    refine W.cbm ?_
    walk_at "WS"
    refine W.ifStr fun t16 => ?_
    walk_at "WS"
    with_reducible refine W.getJoin ?_
    refine W.cbm ?_
    walk_at "WS"
    have zf := zone_fit _ (zone_mem rok.place)
    refine W.joinL (.tail _ (List.mem_append_left _ hlz)) (by simpa using hus) (Nat.le_trans zf.1 (by decide)) fun t17 => ?_
    refine W.adds ?_ fun t18 => ?_
    · have h1 : (if (zoneL.getD ru.place (false, [])).1 = true then Str.ofString "." else Str.ofString "").length ≤ 1 := by
        cases (zoneL.getD ru.place (false, [])).1 <;> decide
      exact Nat.le_trans (Nat.add_le_add h1 zf.2) (by unfold sizeLine; decide)
    walk_at "WS"
    refine W.append (N := fun o => (Wd, o) :: (nz ++ n)) (fun _ => .here) (by simp; unfold sizeLine; omega) fun k2 => ?_
    walk_at "WS"
    refine ⟨_, _, _, _, _, _, ws ++ [.str (signS ru.plus ++ figS ru.mask) t15] ++ [.str (zoneS (zoneL.getD ru.place (false, []))) t18], k2, rfl, ?_, ?_⟩
    · rw [← List.push_toArray, ← List.push_toArray]
      rfl
    · have e : rs.take (i + 1) = rs.take i ++ [ru] := by rw [List.take_add_one, hru]; rfl
      rw [e, words_snoc]
      exact strsSnoc (strsSnoc hws)
end
end
-- MS2
section
set_option maxHeartbeats 0
set_option autoImplicit false
section
variable {C : Cx} {L : Loc} {n : Led} {Q : Value → Loc → Led → Prop}
theorem s82 {i : Int} {t : Tok} {wh : Value} (ok : Ok C) (hr : C.A.depth < 900) (hi : -1 ≤ i ∧ i ≤ 1) (h : ∀ t, Q (.int i t) L n) : W C (call (.ref 82) [.int i t, wh]) L n Q := by
  refine W.cf (f := f82) [some (.int i t), some wh] ok fo82 (by show _ < 1000; omega) (by kernel_rfl) rfl fun C' ok' hf hw hd hu => ?_
  have hns : C'.fn.ns = [Str.ofString "n", Str.ofString "what"] := congrArg Fn.ns hf
  have hgn : C'.fn.gns = [Str.ofString "type", Str.ofString "int", Str.ofString "bool", Str.ofString "_wall"] := congrArg Fn.gns hf
  conv => arg 2; arg 1; whnf
  walk_at "WS"
  walk_at "BL"
  walk_at "WS"
  refine W.typeOf (fun s => typeIs_int s _ _) rfl ?_
  walk_at "BL"
  refine W.isNotSelf rfl ?_
  walk_at "WS"
  refine iteF rfl ?_
  refine iteF rfl ?_
  walk_at "WS"
  walk_at "BL"
  walk_at "WS"
  refine iteF (by simp; omega) ?_
  walk_at "WS"
  refine iteF (by simp; omega) ?_
  walk_at "WS"
  refine iteF rfl ?_
  walk_at "WS"
  exact h _
end
end
-- MS3
section
set_option maxHeartbeats 0
set_option autoImplicit false
noncomputable abbrev nsS : List Str := [Str.ofString "_StringIO__newline", Str.ofString "_StringIO__buf", Str.ofString "_StringIO__pos"]
theorem co616 : ClsOk 616 nsS := ClsOk.of (fun _ => by kernel_rfl) (fun _ => by kernel_rfl) (fun _ => by kernel_rfl) (fun _ => by kernel_rfl) (fun _ => by kernel_rfl) (fun _ => by kernel_rfl) (by kernel_rfl)
section
variable {C : Cx} {L : Loc} {n : Led} {Q : Value → Loc → Led → Prop}
theorem s400 {x dx : Addr} {es : List DictEntry} {k b : Nat} {nl ps : Option Value} {buf : Str} {tb : Tok} (ok : Ok C) (hr : C.A.depth < 900) (hx : (x, instObj 616 dx) ∈ n) (hd : (dx, dictOf es k) ∈ n) (D : Dct es nsS [nl, some (.str buf tb), ps] b)
    (h : Q .none L n) : W C (call (.ref 400) [.ref x]) L n Q := by
  refine W.cf (f := f400) [some (.ref x)] ok fo400 (by show _ < 1000; omega) (by kernel_rfl) rfl fun C' ok' hf hw hdd hu => ?_
  have hns : C'.fn.ns = [Str.ofString "self"] := congrArg Fn.ns hf
  conv => arg 2; arg 1; whnf
  walk_at "WS"
  refine W.getA ok' co616 hx hd D (by walk_at "AT") ?_
  walk_at "WS"
  refine iteF rfl ?_
  walk_at "WS"
  exact h
theorem s562 {x dx : Addr} {es : List DictEntry} {k b : Nat} {nl : Option Value} {buf : Str} {tb tp t : Tok} {pos : Int} {N : Obj → Led} (ok : Ok C) (hr : C.A.depth < 890) (hx : (x, instObj 616 dx) ∈ n) (hd : (dx, dictOf es k) ∈ n)
    (D : Dct es nsS [nl, some (.str buf tb), some (.int pos tp)] b) (hb : b < 900) (U : ∀ o', UpdL dx (dictOf es k) o' n (N o')) (h0 : 0 ≤ pos) (hl : pos < (buf.length : Int)) (hz : buf.length ≤ 1000000)
    (h : ∀ es' k' t1 t2, Dct es' nsS [nl, some (.str buf tb), some (.int (pos + 1) t1)] b → Q (.str (Txt.slice buf (some pos) (some (pos + 1))) t2) L (N (dictOf es' k'))) : W C (call (.ref 562) [.ref x, .int 1 t]) L n Q := by
  refine W.cfk (f := f562) [(Str.ofString "self", .ref x), (Str.ofString "size", .int 1 t)] [some (.ref x), some (.int 1 t), none, none] ok fo562 (by show _ < 1000; omega) (fun _ _ => by kernel_rfl) (by kernel_rfl) (by kernel_rfl) fun C' ok' hf hw hdd hu => ?_
  have hns : C'.fn.ns = [Str.ofString "self", Str.ofString "size", Str.ofString "start", Str.ofString "stop"] := congrArg Fn.ns hf
  have hgn : C'.fn.gns = [Str.ofString "_index", Str.ofString "len"] := congrArg Fn.gns hf
  conv => arg 2; arg 1; whnf
  walk_at "WS"
  refine iteF rfl ?_
  walk_at "WS"
  refine W.gl ok' hgn (by walk_at "MEM") (gt_uindex ok') ?_
  refine W.cw ok' (fo82.keep _) ?_
  walk_at "WS"
  refine s82 ok' (by omega) (by omega) fun t1 => ?_
  walk_at "WS"
  refine W.getM ok' co616 hx hd D (f := 400) (fun _ => by kernel_rfl) (fun _ => by kernel_rfl) (by kernel_rfl) ?_
  refine W.cwm0 ok' (fo400.keep _) ?_
  refine s400 ok' (by omega) hx hd D ?_
  walk_at "WS"
  refine W.getA ok' co616 hx hd D (by walk_at "AT") ?_
  walk_at "WS"
  walk_at "BL"
  walk_at "WS"
  refine W.getA ok' co616 hx hd D (by walk_at "AT") ?_
  walk_at "WS"
  refine W.len (by omega) fun t2 => ?_
  walk_at "WS"
  refine iteF (by simp; omega) ?_
  walk_at "WS"
  refine iteT (by rfl) ?_
  walk_at "WS"
  by_cases hp : pos + 1 < (buf.length : Int)
  · refine iteT (by simpa using hp) ?_
    walk_at "WS"
    refine iteT rfl ?_
    walk_at "WS"
    refine W.setA' ok' co616 hx hd D (by omega) (u := .int pos tp) (by walk_at "AT") (by walk_at "SET") U fun es' k' D' => ?_
    walk_at "WS"
    refine W.slSS ?_
    walk_at "WS"
    refine W.getA ok' co616 ((U _).inst hx) (U _).mem' D' (by walk_at "AT") ?_
    walk_at "WS"
    refine ⟨_, _, _, _, _, _, rfl, rfl, rfl, by unfold sizeLine; omega, fun t' => ?_⟩
    walk_at "WS"
    exact h _ _ _ _ D'
  · refine iteF (by simpa using hp) ?_
    walk_at "WS"
    refine iteF rfl ?_
    walk_at "WS"
    refine W.setA' ok' co616 hx hd D (by omega) (u := .int pos tp) (by walk_at "AT") (by walk_at "SET") U fun es' k' D' => ?_
    walk_at "WS"
    refine W.slSS ?_
    walk_at "WS"
    refine W.getA ok' co616 ((U _).inst hx) (U _).mem' D' (by walk_at "AT") ?_
    walk_at "WS"
    refine ⟨_, _, _, _, _, _, rfl, rfl, rfl, by unfold sizeLine; omega, fun t' => ?_⟩
    walk_at "WS"
    have e : (buf.length : Int) = pos + 1 := by omega
    rw [e] at D' ⊢
    exact h _ _ _ _ D'
theorem s562e {x dx : Addr} {es : List DictEntry} {k b : Nat} {nl : Option Value} {buf : Str} {tb tp t : Tok} {pos : Int} (ok : Ok C) (hr : C.A.depth < 890) (hx : (x, instObj 616 dx) ∈ n) (hd : (dx, dictOf es k) ∈ n)
    (D : Dct es nsS [nl, some (.str buf tb), some (.int pos tp)] b) (hl : (buf.length : Int) ≤ pos) (hz : buf.length ≤ 1000000)
    (h : ∀ t2, Q (.str (Str.ofString "") t2) L n) : W C (call (.ref 562) [.ref x, .int 1 t]) L n Q := by
  refine W.cfk (f := f562) [(Str.ofString "self", .ref x), (Str.ofString "size", .int 1 t)] [some (.ref x), some (.int 1 t), none, none] ok fo562 (by show _ < 1000; omega) (fun _ _ => by kernel_rfl) (by kernel_rfl) (by kernel_rfl) fun C' ok' hf hw hdd hu => ?_
  have hns : C'.fn.ns = [Str.ofString "self", Str.ofString "size", Str.ofString "start", Str.ofString "stop"] := congrArg Fn.ns hf
  have hgn : C'.fn.gns = [Str.ofString "_index", Str.ofString "len"] := congrArg Fn.gns hf
  conv => arg 2; arg 1; whnf
  walk_at "WS"
  refine iteF rfl ?_
  walk_at "WS"
  refine W.gl ok' hgn (by walk_at "MEM") (gt_uindex ok') ?_
  refine W.cw ok' (fo82.keep _) ?_
  walk_at "WS"
  refine s82 ok' (by omega) (by omega) fun t1 => ?_
  walk_at "WS"
  refine W.getM ok' co616 hx hd D (f := 400) (fun _ => by kernel_rfl) (fun _ => by kernel_rfl) (by kernel_rfl) ?_
  refine W.cwm0 ok' (fo400.keep _) ?_
  refine s400 ok' (by omega) hx hd D ?_
  walk_at "WS"
  refine W.getA ok' co616 hx hd D (by walk_at "AT") ?_
  walk_at "WS"
  walk_at "BL"
  walk_at "WS"
  refine W.getA ok' co616 hx hd D (by walk_at "AT") ?_
  walk_at "WS"
  refine W.len (by omega) fun t2 => ?_
  walk_at "WS"
  refine iteT (by simp; omega) ?_
  walk_at "WS"
  exact h _
end
end
-- MDeq
section
set_option autoImplicit false
noncomputable abbrev dqO : Obj := { cls := .type "collections.deque", dict := none, data := .fields #[.none, rawInt 0], slots := #[] }
theorem dq_len : Slot "collections.deque" "__len__" "collections.deque.__len__" :=
  .of (owner := "collections.deque") (n := "__len__") (by rw [typeLookup_type, builtinLookup_eq_fast]; kernel_rfl) (by decide +kernel) (by decide +kernel) (by decide +kernel)
    (by first | exact .inl (by decide +kernel) | exact .inr (by decide +kernel)) (by rw [isSubtype_type]; kernel_rfl)
theorem dq_init : Slot "collections.deque" "__init__" "collections.deque.__init__" :=
  .of (owner := "collections.deque") (n := "__init__") (by rw [typeLookup_type, builtinLookup_eq_fast]; kernel_rfl) (by decide +kernel) (by decide +kernel) (by decide +kernel)
    (by first | exact .inl (by decide +kernel) | exact .inr (by decide +kernel)) (by rw [isSubtype_type]; kernel_rfl)
theorem dq_elen : entryFor table "collections.deque.__len__" = some Builtin.«collections.deque.__len__» := entryFor_of_tree (by kernel_rfl)
theorem dq_einit : entryFor table "collections.deque.__init__" = some Builtin.«collections.deque.__init__» := entryFor_of_tree (by kernel_rfl)
theorem dq_enew : entryFor table "collections.deque.__new__" = some Builtin.«collections.deque.__new__» := entryFor_of_tree (by kernel_rfl)
theorem dq_alen (a : Value) : argsOk "collections.deque.__len__" ⟨[a], []⟩ := by unfold argsOk; kernel_rfl
theorem dq_ainit (a : Value) : argsOk "collections.deque.__init__" ⟨[a], []⟩ := by unfold argsOk; kernel_rfl
theorem dq_mro : mroOf (.type "collections.deque") = Pure.pure [.type "collections.deque", .type "object"] := by rw [mroOf_type]; kernel_rfl
theorem dq_nobool : typeLookup (.type "collections.deque") "__bool__" = Pure.pure none := by rw [typeLookup_type, builtinLookup_eq_fast]; kernel_rfl
theorem dq_lnew : typeLookup (.type "collections.deque") "__new__" = Pure.pure (some (.builtin "collections.deque.__new__")) := by rw [typeLookup_type, builtinLookup_eq_fast]; kernel_rfl
theorem dq_called : TypeCalled "collections.deque" "collections.deque.__new__" "collections.deque.__init__" :=
  ⟨by decide +kernel, by decide +kernel, ⟨_, _, dq_mro⟩, madeBy_type dq_mro dq_lnew (by decide +kernel), by decide +kernel, by rw [isSubtype_type]; kernel_rfl, dq_init⟩
theorem dq_newm : Meets (Builtin.«collections.deque.__new__» ⟨[.type "collections.deque"], []⟩) (fun _ R s => R (.ok (.ret (.ref s.heap.objs.size))) { s with heap := s.heap.push dqO }) :=
  Meets.of_wp fun prog w A R s hs => by
    have hsub : isSubtype (.type "collections.deque") (.type Builtin.Deque.ty) = Pure.pure true := dq_called.sub
    unfold Builtin.«collections.deque.__new__» Builtin.Deque.newArgs Builtin.Deque.new
    repeat (any_goals (first | assumption | wp_step))
    exact ⟨_, rfl, hs⟩
theorem dq_initm {p : Addr} : Meets (Builtin.«collections.deque.__init__» ⟨[.ref p], []⟩) (fun _ R s => s.heap.get? p = some dqO ∧ ∀ h', h'.get? p = some dqO → Heap.SameBut p s.heap h' → R (.ok (.ret .none)) { s with heap := h' }) :=
  Meets.of_wp fun prog w A R s hs => by
    obtain ⟨ho, hq⟩ := hs
    unfold Builtin.«collections.deque.__init__»
    repeat (any_goals (first | assumption | wp_step))
    exact ⟨_, rfl, hq _ (Heap.get?_update_self _ ho rfl) (Heap.SameBut.update ..)⟩
section
variable {C : Cx} {L : Loc} {n : Led} {Q : Value → Loc → Led → Prop} {QB : Bool → Loc → Led → Prop}
theorem W.trDq {p : Addr} (hp : (p, dqO) ∈ n) (h : QB false L n) : W C (truthy (.ref p)) L n QB := fun s hs => by
  have ho := hs.mem hp
  have hT : s.TypeIs (.ref p) "collections.deque" := ⟨_, ho, rfl⟩
  have body : wpAny (model P0 C.w) C.A.in1 (Builtin.«len» ⟨[.ref p], []⟩) (fun fin s' => ∃ r, fin = .done (.ret r) ∧ (r = .int 0 (s.toks + 1) ∧ s' = { s with toks := s.toks + 1 + 1 })) C.E s := by
    unfold Builtin.«len»
    refine wpAny_bind (m := oneArg "len" _) (wpAny_pure ?_)
    refine wpAny_bind (m := callSpecial? (.ref p) (Str.ofString "__len__")) (wpAny_callSpecial?_slot (name := Str.ofString "__len__") hT dq_len
      (wpAny_call_entry dq_len hT dq_elen ?_ (dq_alen _)))
    show wpAny _ _ (do retInt (← Builtin.Deque.size (.ref p))) _ _ s
    unfold Builtin.Deque.size fieldsOf
    refine wpAny_bind (wpAny_bind (wpAny_bind (wpAny_load ho ?_)))
    refine wpAny_pure (wpAny_pure (wpAny_bind (wpAny_mkInt (wpAny_pure ⟨_, rfl, ?_⟩))))
    refine wpAny_bind (wpAny_holding (wpAny_pure ?_))
    refine wpAny_bind (wpAny_letGo ?_)
    show wpAny _ _ (if ((0 : Nat) : Int) < 0 then _ else _) _ _ _
    rw [if_neg (by omega)]
    show wpAny _ _ (if ((0 : Nat) : Int) ≥ 2 ^ 63 then _ else _) _ _ _
    rw [if_neg (by omega)]
    exact wpAny_bind (wpAny_mkInt (wpAny_pure ⟨_, rfl, rfl, rfl⟩))
  have key : wpAny (model P0 C.w) C.A (runValue (.builtin "len" ⟨[.ref p], []⟩)) (fun r s' => r = .int 0 (s.toks + 1) ∧ s' = { s with toks := s.toks + 1 + 1 }) C.E s := by
    refine wpAny_runValue (codeAny_builtin entry_len ?_)
    rw [Around.under_plainId plain_len _]
    exact wpAny_mono body (fun fin s' h' => by obtain ⟨r, rfl, hq⟩ := h'; exact hq) fun _ _ e => e
  unfold truthy
  first
    | refine wpAny_bind (wpAny_callSpecial?_none (name := Str.ofString "__bool__") hT dq_nobool ?_)
    | refine wpAny_bind (wpAny_pure (wpAny_bind (wpAny_callSpecial?_none (name := Str.ofString "__bool__") hT dq_nobool ?_)))
  first
    | refine wpAny_bind (wpAny_specialOf (name := Str.ofString "__len__") hT dq_len.lookup ?_)
    | refine wpAny_bind (wpAny_pure (wpAny_bind (wpAny_specialOf (name := Str.ofString "__len__") hT dq_len.lookup ?_)))
  have fin : ∀ r s', r = Value.int 0 (s.toks + 1) ∧ s' = { s with toks := s.toks + 1 + 1 } → wpAny (model P0 C.w) C.A (match r with | .int n _ => (Pure.pure (n != 0) : Sem Bool) | _ => unsupported "internal:truth.len") (fun v s' => ∃ L' n', Sta C L' n' s' ∧ QB v L' n') C.E s' := fun r s' hh => by
    obtain ⟨rfl, rfl⟩ := hh
    exact wpAny_pure ⟨_, _, hs.toks _, h⟩
  first
    | exact wpAny_bind (wpAny_mono key fin fun _ _ e => e)
    | exact wpAny_bind (wpAny_pure (wpAny_bind (wpAny_mono key fin fun _ _ e => e)))
theorem W.newDq (h : ∀ p, Q (.ref p) L ((p, dqO) :: n)) : W C (call (.type "collections.deque") []) L n Q := fun s hs =>
  callType_meets (Q₁ := fun v s₁ => v = .ref s.heap.objs.size ∧ s₁ = { s with heap := s.heap.push dqO }) dq_called (by kernel_rfl) (by kernel_rfl) dq_enew dq_einit dq_newm ⟨rfl, rfl⟩ fun obj s₁ hq => by
    obtain ⟨rfl, rfl⟩ := hq
    have hs' := hs.push dqO
    have hg := hs'.mem (.head _)
    refine ⟨⟨_, hg, rfl⟩, dq_ainit _, _, dq_initm (p := s.heap.objs.size), hg, fun h' e1 e2 => ?_⟩
    exact ⟨rfl, _, _, hs'.chg (tk := s.toks) .here e1 fun b x hb e => e2.extBut b x hb e, h _⟩
end
end
-- MLx0
section
set_option maxHeartbeats 0
set_option autoImplicit false
noncomputable abbrev nsL : List Str := [Str.ofString "state", Str.ofString "token", Str.ofString "posix", Str.ofString "whitespace", Str.ofString "quotes", Str.ofString "debug", Str.ofString "commenters", Str.ofString "escape", Str.ofString "wordchars", Str.ofString "whitespace_split", Str.ofString "escapedquotes", Str.ofString "instream", Str.ofString "_punctuation_chars", Str.ofString "infile", Str.ofString "eof", Str.ofString "pushback", Str.ofString "lineno", Str.ofString "filestack", Str.ofString "source"]
theorem co751 : ClsOk 751 nsL := ClsOk.of (fun _ => by kernel_rfl) (fun _ => by kernel_rfl) (fun _ => by kernel_rfl) (fun _ => by kernel_rfl) (fun _ => by kernel_rfl) (fun _ => by kernel_rfl) (by kernel_rfl)
end
-- MLex
section
set_option maxHeartbeats 0
set_option autoImplicit false
local macro_rules | `(tactic| walk_at "GA") => `(tactic| (show W _ (getAttr _ _ _) _ _ _; refine W.getA (by assumption) co751 (by walk_at "MEM") (by walk_at "MEM") (by assumption) (by walk_at "AT") ?_))
local macro_rules | `(tactic| walk_at "WS") => `(tactic| repeat first | walk_at "W1" | walk_at "GA")
noncomputable def wordS : Str := Str.ofString "abcdfeghijklmnopqrstuvwxyzABCDEFGHIJKLMNOPQRSTUVWXYZ0123456789_" ++ Str.ofString "ßàáâãäåæçèéêëìíîïðñòóôõöøùúûüýþÿÀÁÂÃÄÅÆÇÈÉÊËÌÍÎÏÐÑÒÓÔÕÖØÙÚÛÜÝÞ"
noncomputable abbrev spS : Str := Str.ofString " "
noncomputable abbrev wsS : Str := Str.ofString " \t\r\n"
noncomputable abbrev qsS : Str := Str.ofString "'\""
noncomputable abbrev bsS : Str := Str.ofString "\\"
/-- what the lexer's dict says; only state and token change -/
noncomputable abbrev lexV (x p1 p2 : Addr) (tk : Nat → Tok) (st : Value) (tok : Str) (tt : Tok) : Loc :=
  [some st, some (.str tok tt), some (.bool true), some (.str wsS (tk 0)), some (.str qsS (tk 1)), some (.int 0 (tk 2)), some (.str (Str.ofString "") (tk 3)), some (.str bsS (tk 4)), some (.str wordS (tk 5)), some (.bool true), some (.str (Str.ofString "\"") (tk 6)), some (.ref x), some (.str (Str.ofString "") (tk 7)), some .none, some .none, some (.ref p1), some (.int 1 (tk 8)), some (.ref p2), some .none]
noncomputable def rtBody : List Stmt := match (bodyOf (mAt 26 6)).drop 2 with | Stmt.While _ b _ _ :: _ => b | _ => []
noncomputable def ifE : Stmt → Stmt | .If _ _ (o :: _) _ => o | _ => .Pass default
noncomputable def ifB : Stmt → List Stmt | .If _ b _ _ => b | _ => []
noncomputable def rtIf : Stmt := match rtBody.drop 3 with | s :: _ => s | [] => .Pass default
noncomputable def rt1 : Stmt := ifE rtIf
noncomputable def rt2 : Stmt := ifE rt1
noncomputable def rt3 : Stmt := ifE rt2
noncomputable def rt4 : Stmt := ifE rt3
section
variable {C : Cx} {n : Led} {L : Loc} {QF : Flow → Loc → Led → Prop} {x dx y dy p1 p2 : Addr} {tk : Nat → Tok} {es : List DictEntry} {k b : Nat} {e1 : List DictEntry} {k1 : Nat} {r : Led}
noncomputable def hasC (s c : Str) : Bool := !(Builtin.Str.occurrences s c 0 s.length 1).isEmpty
theorem gp {Q : Value → Loc → Led → Prop} {st : Value} {tok : Str} {tt : Tok} {expr : Bool} (ok : Ok C) (hr : C.A.depth < 880) (hy : (y, instObj 751 dy) ∈ n) (hd : (dy, dictOf es k) ∈ n) (D : Dct es nsL (lexV x p1 p2 tk st tok tt) b)
    (h : Q (.str (Str.ofString "") (tk 7)) L n) : W C (getAttr (.ref y) (Str.ofString "punctuation_chars") expr) L n Q := by
  refine W.getP (f := f682) (p := 683) [.none, .none, .none, .str (Str.ofString "punctuation_chars") 1168, .bool false] [some (.ref y)] ok co751 hy hd (fun _ => by kernel_rfl) (fun _ => by kernel_rfl) (fun _ => by kernel_rfl) (fun _ => by kernel_rfl) fo682 (by show _ < 1000; omega) (by kernel_rfl) rfl fun C' ok' hf hw hdd hu => ?_
  have hns : C'.fn.ns = [Str.ofString "self"] := congrArg Fn.ns hf
  conv => arg 2; arg 1; whnf
  walk_at "WS"
  refine W.getA ok' co751 hy hd D (by walk_at "AT") ?_
  walk_at "WS"
  exact ⟨rfl, h⟩
theorem sA {name : Str} {v u : Value} {vs vs' : Loc} {Q : Unit → Loc → Led → Prop} (ok : Ok C) (D : Dct es nsL vs b) (hb : b < 900) (hu : At nsL vs name u) (ha : SetAt nsL vs name v vs')
    (h : ∀ es' k', Dct es' nsL vs' b → Q () L ((dx, dictOf e1 k1) :: (dy, dictOf es' k') :: (x, instObj 616 dx) :: (y, instObj 751 dy) :: r)) : W C (setAttr (.ref y) name v) L ((dx, dictOf e1 k1) :: (dy, dictOf es k) :: (x, instObj 616 dx) :: (y, instObj 751 dy) :: r) Q :=
  W.setA' (N := fun o => (dx, dictOf e1 k1) :: (dy, o) :: (x, instObj 616 dx) :: (y, instObj 751 dy) :: r) ok co751 (.tail _ (.tail _ (.tail _ (.head _)))) (.tail _ (.head _)) D (by omega) hu ha (fun _ => .there .here) h
theorem seq0 {env : Env} {f : Flow} (q : QF f L n) : Seq C env [] QF f L n := by
  cases f with
  | next => exact W.nil q
  | _ => exact q
theorem W.seq0 {env : Env} {t : Sem Flow} (h : W C t L n QF) : W C t L n (Seq C env [] QF) := h.mono fun _ _ _ q => Mine.seq0 q
theorem lv0 {q esc : Value} {c tok : Str} {tc tt ts : Tok} {st : Str} (ok : Ok C) (hns : C.fn.ns = f719.ns) (D : Dct es nsL (lexV x p1 p2 tk (.str st ts) tok tt) b)
    (h : W C (execs [rt1] C.env) [some (.ref y), some q, some esc, some (.str c tc), none] ((dx, dictOf e1 k1) :: (dy, dictOf es k) :: (x, instObj 616 dx) :: (y, instObj 751 dy) :: r) QF) : W C (exec rtIf C.env) [some (.ref y), some q, some esc, some (.str c tc), none] ((dx, dictOf e1 k1) :: (dy, dictOf es k) :: (x, instObj 616 dx) :: (y, instObj 751 dy) :: r) QF := by
  have hns : C.fn.ns = [Str.ofString "self", Str.ofString "quoted", Str.ofString "escapedstate", Str.ofString "nextchar", Str.ofString "result"] := hns
  conv => arg 2; arg 1; whnf
  walk_at "WS"
  refine iteF rfl ?_
  exact h
theorem lv1 {q esc : Value} {c tok : Str} {tc tt ts : Tok} {st : Str} (ok : Ok C) (hns : C.fn.ns = f719.ns) (D : Dct es nsL (lexV x p1 p2 tk (.str st ts) tok tt) b) (hst : (st.cps.toList == spS.cps.toList) = false)
    (h : W C (execs [rt2] C.env) [some (.ref y), some q, some esc, some (.str c tc), none] ((dx, dictOf e1 k1) :: (dy, dictOf es k) :: (x, instObj 616 dx) :: (y, instObj 751 dy) :: r) QF) : W C (execs [rt1] C.env) [some (.ref y), some q, some esc, some (.str c tc), none] ((dx, dictOf e1 k1) :: (dy, dictOf es k) :: (x, instObj 616 dx) :: (y, instObj 751 dy) :: r) QF := by
  have hns : C.fn.ns = [Str.ofString "self", Str.ofString "quoted", Str.ofString "escapedstate", Str.ofString "nextchar", Str.ofString "result"] := hns
  refine W.cons ?_
  conv => arg 2; arg 1; whnf
  walk_at "WS"
  refine iteF hst ?_
  exact h.seq0
theorem lv1T {q esc : Value} {c tok : Str} {tc tt ts : Tok} {st : Str} (ok : Ok C) (hns : C.fn.ns = f719.ns) (D : Dct es nsL (lexV x p1 p2 tk (.str st ts) tok tt) b) (hst : (st.cps.toList == spS.cps.toList) = true)
    (h : W C (execs (ifB rt1) C.env) [some (.ref y), some q, some esc, some (.str c tc), none] ((dx, dictOf e1 k1) :: (dy, dictOf es k) :: (x, instObj 616 dx) :: (y, instObj 751 dy) :: r) QF) : W C (execs [rt1] C.env) [some (.ref y), some q, some esc, some (.str c tc), none] ((dx, dictOf e1 k1) :: (dy, dictOf es k) :: (x, instObj 616 dx) :: (y, instObj 751 dy) :: r) QF := by
  have hns : C.fn.ns = [Str.ofString "self", Str.ofString "quoted", Str.ofString "escapedstate", Str.ofString "nextchar", Str.ofString "result"] := hns
  refine W.cons ?_
  conv => arg 2; arg 1; whnf
  walk_at "WS"
  refine iteT hst ?_
  exact h.seq0
theorem lv2 {q esc : Value} {c tok : Str} {tc tt ts : Tok} {st : Str} (ok : Ok C) (hns : C.fn.ns = f719.ns) (D : Dct es nsL (lexV x p1 p2 tk (.str st ts) tok tt) b) (hst : hasC qsS st = false)
    (h : W C (execs [rt3] C.env) [some (.ref y), some q, some esc, some (.str c tc), none] ((dx, dictOf e1 k1) :: (dy, dictOf es k) :: (x, instObj 616 dx) :: (y, instObj 751 dy) :: r) QF) : W C (execs [rt2] C.env) [some (.ref y), some q, some esc, some (.str c tc), none] ((dx, dictOf e1 k1) :: (dy, dictOf es k) :: (x, instObj 616 dx) :: (y, instObj 751 dy) :: r) QF := by
  have hns : C.fn.ns = [Str.ofString "self", Str.ofString "quoted", Str.ofString "escapedstate", Str.ofString "nextchar", Str.ofString "result"] := hns
  refine W.cons ?_
  conv => arg 2; arg 1; whnf
  walk_at "WS"
  refine iteF hst ?_
  exact h.seq0
theorem lv2T {q esc : Value} {c tok : Str} {tc tt ts : Tok} {st : Str} (ok : Ok C) (hns : C.fn.ns = f719.ns) (D : Dct es nsL (lexV x p1 p2 tk (.str st ts) tok tt) b) (hst : hasC qsS st = true)
    (h : W C (execs (ifB rt2) C.env) [some (.ref y), some q, some esc, some (.str c tc), none] ((dx, dictOf e1 k1) :: (dy, dictOf es k) :: (x, instObj 616 dx) :: (y, instObj 751 dy) :: r) QF) : W C (execs [rt2] C.env) [some (.ref y), some q, some esc, some (.str c tc), none] ((dx, dictOf e1 k1) :: (dy, dictOf es k) :: (x, instObj 616 dx) :: (y, instObj 751 dy) :: r) QF := by
  have hns : C.fn.ns = [Str.ofString "self", Str.ofString "quoted", Str.ofString "escapedstate", Str.ofString "nextchar", Str.ofString "result"] := hns
  refine W.cons ?_
  conv => arg 2; arg 1; whnf
  walk_at "WS"
  refine iteT hst ?_
  exact h.seq0
theorem lv3 {q esc : Value} {c tok : Str} {tc tt ts : Tok} {st : Str} (ok : Ok C) (hns : C.fn.ns = f719.ns) (D : Dct es nsL (lexV x p1 p2 tk (.str st ts) tok tt) b) (hst : hasC bsS st = false)
    (h : W C (execs [rt4] C.env) [some (.ref y), some q, some esc, some (.str c tc), none] ((dx, dictOf e1 k1) :: (dy, dictOf es k) :: (x, instObj 616 dx) :: (y, instObj 751 dy) :: r) QF) : W C (execs [rt3] C.env) [some (.ref y), some q, some esc, some (.str c tc), none] ((dx, dictOf e1 k1) :: (dy, dictOf es k) :: (x, instObj 616 dx) :: (y, instObj 751 dy) :: r) QF := by
  have hns : C.fn.ns = [Str.ofString "self", Str.ofString "quoted", Str.ofString "escapedstate", Str.ofString "nextchar", Str.ofString "result"] := hns
  refine W.cons ?_
  conv => arg 2; arg 1; whnf
  walk_at "WS"
  refine iteF hst ?_
  exact h.seq0
theorem lv4T {q esc : Value} {c tok : Str} {tc tt ts : Tok} {st : Str} (ok : Ok C) (hns : C.fn.ns = f719.ns) (D : Dct es nsL (lexV x p1 p2 tk (.str st ts) tok tt) b) (hst : [Str.ofString "a", Str.ofString "c"].any (· == st) = true)
    (h : W C (execs (ifB rt4) C.env) [some (.ref y), some q, some esc, some (.str c tc), none] ((dx, dictOf e1 k1) :: (dy, dictOf es k) :: (x, instObj 616 dx) :: (y, instObj 751 dy) :: r) QF) : W C (execs [rt4] C.env) [some (.ref y), some q, some esc, some (.str c tc), none] ((dx, dictOf e1 k1) :: (dy, dictOf es k) :: (x, instObj 616 dx) :: (y, instObj 751 dy) :: r) QF := by
  have hns : C.fn.ns = [Str.ofString "self", Str.ofString "quoted", Str.ofString "escapedstate", Str.ofString "nextchar", Str.ofString "result"] := hns
  refine W.cons ?_
  conv => arg 2; arg 1; whnf
  walk_at "WS"
  refine W.inTup (.head _) (.cons _ _ (.cons _ _ .nil)) ?_
  walk_at "WS"
  refine iteT hst ?_
  refine W.drop (List.sublist_cons_self _ _) ?_
  exact h.seq0
end
end
-- MLexA
section
set_option maxHeartbeats 0
set_option autoImplicit false
local macro_rules | `(tactic| walk_at "GA") => `(tactic| (show W _ (getAttr _ _ _) _ _ _; refine W.getA (by assumption) co751 (by walk_at "MEM") (by walk_at "MEM") (by assumption) (by walk_at "AT") ?_))
local macro_rules | `(tactic| walk_at "WS") => `(tactic| repeat first | walk_at "W1" | walk_at "GA")
section
variable {C : Cx} {n : Led} {L : Loc} {QF : Flow → Loc → Led → Prop} {x dx y dy p1 p2 : Addr} {tk : Nat → Tok} {es : List DictEntry} {k b : Nat} {e1 : List DictEntry} {k1 : Nat} {r : Led}
/-- state 'a', the text's end -/
theorem aEof {q esc : Value} {c tok : Str} {tc tt ts : Tok} (ok : Ok C) (hr : C.A.depth < 870) (hns : C.fn.ns = f719.ns) (D : Dct es nsL (lexV x p1 p2 tk (.str (Str.ofString "a") ts) tok tt) b) (hb : b < 900) (h0 : c.length = 0)
    (h : ∀ es' k' (t t' : Tok), Dct es' nsL (lexV x p1 p2 tk .none tok tt) b → QF .brk [some (.ref y), some q, some esc, some (.str c tc), none] ((dx, dictOf e1 k1) :: (dy, dictOf es' k') :: (x, instObj 616 dx) :: (y, instObj 751 dy) :: r)) : W C (execs (ifB rt4) C.env) [some (.ref y), some q, some esc, some (.str c tc), none] ((dx, dictOf e1 k1) :: (dy, dictOf es k) :: (x, instObj 616 dx) :: (y, instObj 751 dy) :: r) QF := by
  have hns : C.fn.ns = [Str.ofString "self", Str.ofString "quoted", Str.ofString "escapedstate", Str.ofString "nextchar", Str.ofString "result"] := hns
  conv => arg 2; arg 1; whnf
  walk_at "WS"
  refine iteT (by simp [h0]) ?_
  walk_at "WS"
  refine sA (by assumption) (by assumption) (by omega) (by walk_at "AT") (by walk_at "SET") ?_
  intro es' k' D'
  walk_at "WS"
  exact h _ _ 0 0 D'
/-- state 'a', a space: the word ends -/
theorem aWs {q esc : Value} {c tok : Str} {tc tt ts : Tok} (ok : Ok C) (hr : C.A.depth < 870) (hns : C.fn.ns = f719.ns) (D : Dct es nsL (lexV x p1 p2 tk (.str (Str.ofString "a") ts) tok tt) b) (hb : b < 900) (h0 : (c.length : Int) ≠ 0) (hlc : c.length ≤ 4) (hlt : tok.length ≤ 100000) (h1 : hasC wsS c = true) (ht : (tok.length : Int) ≠ 0)
    (h : ∀ es' k' (t t' : Tok), Dct es' nsL (lexV x p1 p2 tk (.str spS t') tok tt) b → QF .brk [some (.ref y), some q, some esc, some (.str c tc), none] ((dx, dictOf e1 k1) :: (dy, dictOf es' k') :: (x, instObj 616 dx) :: (y, instObj 751 dy) :: r)) : W C (execs (ifB rt4) C.env) [some (.ref y), some q, some esc, some (.str c tc), none] ((dx, dictOf e1 k1) :: (dy, dictOf es k) :: (x, instObj 616 dx) :: (y, instObj 751 dy) :: r) QF := by
  have hns : C.fn.ns = [Str.ofString "self", Str.ofString "quoted", Str.ofString "escapedstate", Str.ofString "nextchar", Str.ofString "result"] := hns
  conv => arg 2; arg 1; whnf
  walk_at "WS"
  refine iteF (by simpa using h0) ?_
  walk_at "WS"
  refine iteT h1 ?_
  walk_at "WS"
  refine iteF rfl ?_
  walk_at "WS"
  refine sA (by assumption) (by assumption) (by omega) (by walk_at "AT") (by walk_at "SET") ?_
  intro es' k' D'
  walk_at "WS"
  refine iteT (by simpa using ht) ?_
  walk_at "WS"
  refine iteT rfl ?_
  walk_at "WS"
  exact h _ _ 0 _ D'
/-- state 'a', a quote opens -/
theorem aQuo {q esc : Value} {c tok : Str} {tc tt ts : Tok} (ok : Ok C) (hr : C.A.depth < 870) (hns : C.fn.ns = f719.ns) (D : Dct es nsL (lexV x p1 p2 tk (.str (Str.ofString "a") ts) tok tt) b) (hb : b < 900) (h0 : (c.length : Int) ≠ 0) (hlc : c.length ≤ 4) (h1 : hasC wsS c = false) (h2 : hasC qsS c = true) (h4 : hasC (Str.ofString "") c = false)
    (h : ∀ es' k' (t t' : Tok), Dct es' nsL (lexV x p1 p2 tk (.str c tc) tok tt) b → QF .next [some (.ref y), some q, some esc, some (.str c tc), none] ((dx, dictOf e1 k1) :: (dy, dictOf es' k') :: (x, instObj 616 dx) :: (y, instObj 751 dy) :: r)) : W C (execs (ifB rt4) C.env) [some (.ref y), some q, some esc, some (.str c tc), none] ((dx, dictOf e1 k1) :: (dy, dictOf es k) :: (x, instObj 616 dx) :: (y, instObj 751 dy) :: r) QF := by
  have hns : C.fn.ns = [Str.ofString "self", Str.ofString "quoted", Str.ofString "escapedstate", Str.ofString "nextchar", Str.ofString "result"] := hns
  conv => arg 2; arg 1; whnf
  walk_at "WS"
  refine iteF (by simpa using h0) ?_
  walk_at "WS"
  refine iteF h1 ?_
  walk_at "WS"
  refine iteF h4 ?_
  walk_at "WS"
  refine iteF (by kernel_rfl) ?_
  walk_at "WS"
  refine iteT rfl ?_
  walk_at "WS"
  refine iteT h2 ?_
  walk_at "WS"
  refine iteT rfl ?_
  walk_at "WS"
  refine sA (by assumption) (by assumption) (by omega) (by walk_at "AT") (by walk_at "SET") ?_
  intro es' k' D'
  walk_at "WS"
  exact h _ _ 0 0 D'
/-- state 'a', a plain sign goes to the token -/
theorem aPut {q esc : Value} {c tok : Str} {tc tt ts : Tok} (ok : Ok C) (hr : C.A.depth < 870) (hns : C.fn.ns = f719.ns) (D : Dct es nsL (lexV x p1 p2 tk (.str (Str.ofString "a") ts) tok tt) b) (hb : b < 900) (h0 : (c.length : Int) ≠ 0) (hlc : c.length ≤ 4) (hlt : tok.length ≤ 100000) (h1 : hasC wsS c = false) (h2 : hasC qsS c = false) (h3 : hasC bsS c = false) (h4 : hasC (Str.ofString "") c = false)
    (h : ∀ es' k' (t t' : Tok), Dct es' nsL (lexV x p1 p2 tk (.str (Str.ofString "a") ts) (tok ++ c) t) b → QF .next [some (.ref y), some q, some esc, some (.str c tc), none] ((dx, dictOf e1 k1) :: (dy, dictOf es' k') :: (x, instObj 616 dx) :: (y, instObj 751 dy) :: r)) : W C (execs (ifB rt4) C.env) [some (.ref y), some q, some esc, some (.str c tc), none] ((dx, dictOf e1 k1) :: (dy, dictOf es k) :: (x, instObj 616 dx) :: (y, instObj 751 dy) :: r) QF := by
  have hns : C.fn.ns = [Str.ofString "self", Str.ofString "quoted", Str.ofString "escapedstate", Str.ofString "nextchar", Str.ofString "result"] := hns
  conv => arg 2; arg 1; whnf
  walk_at "WS"
  refine iteF (by simpa using h0) ?_
  walk_at "WS"
  refine iteF h1 ?_
  walk_at "WS"
  refine iteF h4 ?_
  walk_at "WS"
  refine iteF (by kernel_rfl) ?_
  walk_at "WS"
  refine iteT rfl ?_
  walk_at "WS"
  refine iteF h2 ?_
  walk_at "WS"
  refine iteF rfl ?_
  walk_at "WS"
  refine iteT rfl ?_
  walk_at "WS"
  refine iteF h3 ?_
  walk_at "WS"
  refine iteF rfl ?_
  walk_at "WS"
  have fin : W C (exec (Stmt.AugAssign (.Attribute (.Name (Str.ofString "self") ⟨702, 20, 702, 24⟩) (Str.ofString "token") ⟨702, 20, 702, 30⟩) .Add (.Name (Str.ofString "nextchar") ⟨702, 34, 702, 42⟩) ⟨702, 20, 702, 42⟩) C.env) [some (.ref y), some q, some esc, some (.str c tc), none] ((dx, dictOf e1 k1) :: (dy, dictOf es k) :: (x, instObj 616 dx) :: (y, instObj 751 dy) :: r) QF := by
    walk_at "WS"
    refine W.iadds (by unfold sizeLine; omega) fun t => ?_
    refine sA (by assumption) (by assumption) (by omega) (by walk_at "AT") (by walk_at "SET") ?_
    intro es' k' D'
    exact h _ _ _ 0 D'
  cases hw : hasC wordS c with
  | true =>
    refine iteT hw ?_
    refine iteT rfl ?_
    refine W.cons ?_
    exact fin.mono fun _ _ _ q => by repeat' (first | exact q | refine seq0 ?_)
  | false =>
    refine iteF hw ?_
    walk_at "WS"
    refine iteF h2 ?_
    walk_at "WS"
    refine iteT rfl ?_
    walk_at "WS"
    refine gp ok (by omega) (by walk_at "MEM") (by walk_at "MEM") D ?_
    walk_at "WS"
    refine iteT (by show (!(hasC (Str.ofString "") c)) = true; rw [h4]; rfl) ?_
    walk_at "WS"
    refine iteT rfl ?_
    refine iteT rfl ?_
    refine W.cons ?_
    exact fin.mono fun _ _ _ q => by repeat' (first | exact q | refine seq0 ?_)
end
end
-- MLexB
section
set_option maxHeartbeats 0
set_option autoImplicit false
local macro_rules | `(tactic| walk_at "GA") => `(tactic| (show W _ (getAttr _ _ _) _ _ _; refine W.getA (by assumption) co751 (by walk_at "MEM") (by walk_at "MEM") (by assumption) (by walk_at "AT") ?_))
local macro_rules | `(tactic| walk_at "WS") => `(tactic| repeat first | walk_at "W1" | walk_at "GA")
section
variable {C : Cx} {n : Led} {L : Loc} {QF : Flow → Loc → Led → Prop} {x dx y dy p1 p2 : Addr} {tk : Nat → Tok} {es : List DictEntry} {k b : Nat} {e1 : List DictEntry} {k1 : Nat} {r : Led}
/-- state ' ', the text's end -/
theorem sEof {q esc : Value} {c tok st : Str} {tc tt ts : Tok} (ok : Ok C) (hr : C.A.depth < 870) (hns : C.fn.ns = f719.ns) (D : Dct es nsL (lexV x p1 p2 tk (.str spS ts) tok tt) b) (hb : b < 900) (h0 : c.length = 0)
    (h : ∀ es' k' (t t' : Tok), Dct es' nsL (lexV x p1 p2 tk .none tok tt) b → QF .brk [some (.ref y), some q, some esc, some (.str c tc), none] ((dx, dictOf e1 k1) :: (dy, dictOf es' k') :: (x, instObj 616 dx) :: (y, instObj 751 dy) :: r)) : W C (execs (ifB rt1) C.env) [some (.ref y), some q, some esc, some (.str c tc), none] ((dx, dictOf e1 k1) :: (dy, dictOf es k) :: (x, instObj 616 dx) :: (y, instObj 751 dy) :: r) QF := by
  have hns : C.fn.ns = [Str.ofString "self", Str.ofString "quoted", Str.ofString "escapedstate", Str.ofString "nextchar", Str.ofString "result"] := hns
  conv => arg 2; arg 1; whnf
  walk_at "WS"
  refine iteT (by simp [h0]) ?_
  walk_at "WS"
  refine sA (by assumption) (by assumption) (by omega) (by walk_at "AT") (by walk_at "SET") ?_
  intro es' k' D'
  walk_at "WS"
  exact h _ _ 0 0 D'
/-- state ' ', a plain sign: a word begins -/
theorem sPut {q esc : Value} {c tok st : Str} {tc tt ts : Tok} (ok : Ok C) (hr : C.A.depth < 870) (hns : C.fn.ns = f719.ns) (D : Dct es nsL (lexV x p1 p2 tk (.str spS ts) tok tt) b) (hb : b < 900) (h0 : (c.length : Int) ≠ 0) (hlc : c.length ≤ 4) (h1 : hasC wsS c = false) (h3 : hasC bsS c = false) (h4 : hasC (Str.ofString "") c = false) (h2 : hasC qsS c = false)
    (h : ∀ es' k' (t t' : Tok), Dct es' nsL (lexV x p1 p2 tk (.str (Str.ofString "a") t) c tc) b → QF .next [some (.ref y), some q, some esc, some (.str c tc), none] ((dx, dictOf e1 k1) :: (dy, dictOf es' k') :: (x, instObj 616 dx) :: (y, instObj 751 dy) :: r)) : W C (execs (ifB rt1) C.env) [some (.ref y), some q, some esc, some (.str c tc), none] ((dx, dictOf e1 k1) :: (dy, dictOf es k) :: (x, instObj 616 dx) :: (y, instObj 751 dy) :: r) QF := by
  have hns : C.fn.ns = [Str.ofString "self", Str.ofString "quoted", Str.ofString "escapedstate", Str.ofString "nextchar", Str.ofString "result"] := hns
  conv => arg 2; arg 1; whnf
  walk_at "WS"
  refine iteF (by simpa using h0) ?_
  walk_at "WS"
  refine iteF h1 ?_
  walk_at "WS"
  refine iteF h4 ?_
  walk_at "WS"
  refine iteT rfl ?_
  walk_at "WS"
  refine iteF h3 ?_
  walk_at "WS"
  refine iteF rfl ?_
  walk_at "WS"
  cases hw : hasC wordS c with
  | true =>
    refine iteT hw ?_
    walk_at "WS"
    refine sA (by assumption) (by assumption) (by omega) (by walk_at "AT") (by walk_at "SET") ?_
    intro es1 k1' D1
    walk_at "WS"
    refine sA (by assumption) (by assumption) (by omega) (by walk_at "AT") (by walk_at "SET") ?_
    intro es' k' D'
    walk_at "WS"
    exact h _ _ _ 0 D'
  | false =>
    refine iteF hw ?_
    walk_at "WS"
    refine gp ok (by omega) (by walk_at "MEM") (by walk_at "MEM") D ?_
    walk_at "WS"
    refine iteF h4 ?_
    walk_at "WS"
    refine iteF h2 ?_
    walk_at "WS"
    refine iteT rfl ?_
    walk_at "WS"
    refine sA (by assumption) (by assumption) (by omega) (by walk_at "AT") (by walk_at "SET") ?_
    intro es1 k1' D1
    walk_at "WS"
    refine sA (by assumption) (by assumption) (by omega) (by walk_at "AT") (by walk_at "SET") ?_
    intro es' k' D'
    walk_at "WS"
    exact h _ _ _ 0 D'
/-- state ' ', a quote: a quoted word begins -/
theorem sQuo {q esc : Value} {c tok st : Str} {tc tt ts : Tok} (ok : Ok C) (hr : C.A.depth < 870) (hns : C.fn.ns = f719.ns) (D : Dct es nsL (lexV x p1 p2 tk (.str spS ts) tok tt) b) (hb : b < 900) (h0 : (c.length : Int) ≠ 0) (hlc : c.length ≤ 4) (h1 : hasC wsS c = false) (h3 : hasC bsS c = false) (h4 : hasC (Str.ofString "") c = false) (h2 : hasC qsS c = true) (hw : hasC wordS c = false)
    (h : ∀ es' k' (t t' : Tok), Dct es' nsL (lexV x p1 p2 tk (.str c tc) tok tt) b → QF .next [some (.ref y), some q, some esc, some (.str c tc), none] ((dx, dictOf e1 k1) :: (dy, dictOf es' k') :: (x, instObj 616 dx) :: (y, instObj 751 dy) :: r)) : W C (execs (ifB rt1) C.env) [some (.ref y), some q, some esc, some (.str c tc), none] ((dx, dictOf e1 k1) :: (dy, dictOf es k) :: (x, instObj 616 dx) :: (y, instObj 751 dy) :: r) QF := by
  have hns : C.fn.ns = [Str.ofString "self", Str.ofString "quoted", Str.ofString "escapedstate", Str.ofString "nextchar", Str.ofString "result"] := hns
  conv => arg 2; arg 1; whnf
  walk_at "WS"
  refine iteF (by simpa using h0) ?_
  walk_at "WS"
  refine iteF h1 ?_
  walk_at "WS"
  refine iteF h4 ?_
  walk_at "WS"
  refine iteT rfl ?_
  walk_at "WS"
  refine iteF h3 ?_
  walk_at "WS"
  refine iteF rfl ?_
  walk_at "WS"
  refine iteF hw ?_
  walk_at "WS"
  refine gp ok (by omega) (by walk_at "MEM") (by walk_at "MEM") D ?_
  walk_at "WS"
  refine iteF h4 ?_
  walk_at "WS"
  refine iteT h2 ?_
  walk_at "WS"
  refine iteF rfl ?_
  walk_at "WS"
  refine sA (by assumption) (by assumption) (by omega) (by walk_at "AT") (by walk_at "SET") ?_
  intro es' k' D'
  walk_at "WS"
  exact h _ _ 0 0 D'
/-- within quotes, the quote again: they end -/
theorem qEnd {q esc : Value} {c tok st : Str} {tc tt ts : Tok} (ok : Ok C) (hr : C.A.depth < 870) (hns : C.fn.ns = f719.ns) (D : Dct es nsL (lexV x p1 p2 tk (.str st ts) tok tt) b) (hb : b < 900) (h0 : (c.length : Int) ≠ 0) (hlc : c.length ≤ 4) (he : (c.cps.toList == st.cps.toList) = true)
    (h : ∀ es' k' (t t' : Tok), Dct es' nsL (lexV x p1 p2 tk (.str (Str.ofString "a") t) tok tt) b → QF .next [some (.ref y), some (.bool true), some esc, some (.str c tc), none] ((dx, dictOf e1 k1) :: (dy, dictOf es' k') :: (x, instObj 616 dx) :: (y, instObj 751 dy) :: r)) : W C (execs (ifB rt2) C.env) [some (.ref y), some q, some esc, some (.str c tc), none] ((dx, dictOf e1 k1) :: (dy, dictOf es k) :: (x, instObj 616 dx) :: (y, instObj 751 dy) :: r) QF := by
  have hns : C.fn.ns = [Str.ofString "self", Str.ofString "quoted", Str.ofString "escapedstate", Str.ofString "nextchar", Str.ofString "result"] := hns
  conv => arg 2; arg 1; whnf
  walk_at "WS"
  refine iteF (by simpa using h0) ?_
  walk_at "WS"
  refine iteT he ?_
  walk_at "WS"
  refine iteF rfl ?_
  walk_at "WS"
  refine sA (by assumption) (by assumption) (by omega) (by walk_at "AT") (by walk_at "SET") ?_
  intro es' k' D'
  walk_at "WS"
  exact h _ _ _ 0 D'
/-- within quotes, another sign goes to the token -/
theorem qPut {q esc : Value} {c tok st : Str} {tc tt ts : Tok} (ok : Ok C) (hr : C.A.depth < 870) (hns : C.fn.ns = f719.ns) (D : Dct es nsL (lexV x p1 p2 tk (.str st ts) tok tt) b) (hb : b < 900) (h0 : (c.length : Int) ≠ 0) (hlc : c.length ≤ 4) (hlt : tok.length ≤ 100000) (he : (c.cps.toList == st.cps.toList) = false) (h3 : hasC bsS c = false)
    (h : ∀ es' k' (t t' : Tok), Dct es' nsL (lexV x p1 p2 tk (.str st ts) (tok ++ c) t) b → QF .next [some (.ref y), some (.bool true), some esc, some (.str c tc), none] ((dx, dictOf e1 k1) :: (dy, dictOf es' k') :: (x, instObj 616 dx) :: (y, instObj 751 dy) :: r)) : W C (execs (ifB rt2) C.env) [some (.ref y), some q, some esc, some (.str c tc), none] ((dx, dictOf e1 k1) :: (dy, dictOf es k) :: (x, instObj 616 dx) :: (y, instObj 751 dy) :: r) QF := by
  have hns : C.fn.ns = [Str.ofString "self", Str.ofString "quoted", Str.ofString "escapedstate", Str.ofString "nextchar", Str.ofString "result"] := hns
  conv => arg 2; arg 1; whnf
  walk_at "WS"
  refine iteF (by simpa using h0) ?_
  walk_at "WS"
  refine iteF he ?_
  walk_at "WS"
  refine iteT rfl ?_
  walk_at "WS"
  refine iteF h3 ?_
  walk_at "WS"
  refine iteF rfl ?_
  walk_at "WS"
  refine W.iadds (by unfold sizeLine; omega) fun t => ?_
  refine sA (by assumption) (by assumption) (by omega) (by walk_at "AT") (by walk_at "SET") ?_
  intro es' k' D'
  walk_at "WS"
  exact h _ _ _ 0 D'
/-- state None: the token is emptied -/
theorem nEnd {q esc : Value} {c tok : Str} {tc tt : Tok} (ok : Ok C) (hns : C.fn.ns = f719.ns) (D : Dct es nsL (lexV x p1 p2 tk .none tok tt) b) (hb : b < 900)
    (h : ∀ es' k' (t t' : Tok), Dct es' nsL (lexV x p1 p2 tk .none (Str.ofString "") t) b → QF .brk [some (.ref y), some q, some esc, some (.str c tc), none] ((dx, dictOf e1 k1) :: (dy, dictOf es' k') :: (x, instObj 616 dx) :: (y, instObj 751 dy) :: r)) : W C (exec rtIf C.env) [some (.ref y), some q, some esc, some (.str c tc), none] ((dx, dictOf e1 k1) :: (dy, dictOf es k) :: (x, instObj 616 dx) :: (y, instObj 751 dy) :: r) QF := by
  have hns : C.fn.ns = [Str.ofString "self", Str.ofString "quoted", Str.ofString "escapedstate", Str.ofString "nextchar", Str.ofString "result"] := hns
  conv => arg 2; arg 1; whnf
  walk_at "WS"
  refine iteT rfl ?_
  walk_at "WS"
  refine sA (by assumption) (by assumption) (by omega) (by walk_at "AT") (by walk_at "SET") ?_
  intro es' k' D'
  walk_at "WS"
  exact h _ _ _ 0 D'
end
end
-- MLexC
section
set_option maxHeartbeats 0
set_option autoImplicit false
local macro_rules | `(tactic| walk_at "GA") => `(tactic| (show W _ (getAttr _ _ _) _ _ _; refine W.getA (by assumption) co751 (by walk_at "MEM") (by walk_at "MEM") (by assumption) (by walk_at "AT") ?_))
local macro_rules | `(tactic| walk_at "WS") => `(tactic| repeat first | walk_at "W1" | walk_at "GA")
section
variable {C : Cx} {n : Led} {L : Loc} {QF : Flow → Loc → Led → Prop} {x dx y dy p1 p2 : Addr} {tk : Nat → Tok} {es : List DictEntry} {k b : Nat} {e1 : List DictEntry} {k1 b1 : Nat} {r : Led} {buf : Str} {nl : Option Value} {tb tp : Tok} {pos : Int}
theorem tRead {st q esc : Value} {nx : Option Value} {tok : Str} {tt : Tok} (ok : Ok C) (hr : C.A.depth < 870) (hns : C.fn.ns = f719.ns) (D : Dct es nsL (lexV x p1 p2 tk st tok tt) b) (hb : b < 900)
    (D1 : Dct e1 nsS [nl, some (.str buf tb), some (.int pos tp)] b1) (hb1 : b1 < 900) (hz : buf.length ≤ 1000000) (h0 : 0 ≤ pos) (hl : pos < (buf.length : Int)) (hnl : ((Txt.slice buf (some pos) (some (pos + 1))).cps.toList == (Str.ofString "\n").cps.toList) = false)
    (h : ∀ e1' k1' t1 tc, Dct e1' nsS [nl, some (.str buf tb), some (.int (pos + 1) t1)] b1 → W C (exec rtIf C.env) [some (.ref y), some q, some esc, some (.str (Txt.slice buf (some pos) (some (pos + 1))) tc), none] ((dx, dictOf e1' k1') :: (dy, dictOf es k) :: (x, instObj 616 dx) :: (y, instObj 751 dy) :: r) QF) : W C (execs rtBody C.env) [some (.ref y), some q, some esc, nx, none] ((dx, dictOf e1 k1) :: (dy, dictOf es k) :: (x, instObj 616 dx) :: (y, instObj 751 dy) :: r) QF := by
  have hns : C.fn.ns = [Str.ofString "self", Str.ofString "quoted", Str.ofString "escapedstate", Str.ofString "nextchar", Str.ofString "result"] := hns
  conv => arg 2; arg 1; whnf
  walk_at "WS"
  refine gp ok (by omega) (by walk_at "MEM") (by walk_at "MEM") D ?_
  walk_at "WS"
  refine W.trs (by decide +kernel) ?_
  refine iteF (by kernel_rfl) ?_
  refine iteF rfl ?_
  walk_at "WS"
  refine W.getM ok co616 (es := e1) (k := k1) (b := b1) (vs := [nl, some (.str buf tb), some (.int pos tp)]) (by walk_at "MEM") (by walk_at "MEM") D1 (f := 562) (fun _ => by kernel_rfl) (fun _ => by kernel_rfl) (by kernel_rfl) ?_
  refine W.cwm ok (fo562.keep _) ?_
  walk_at "WS"
  refine s562 (N := fun o => (dx, o) :: (dy, dictOf es k) :: (x, instObj 616 dx) :: (y, instObj 751 dy) :: r) ok (by omega) (by walk_at "MEM") (by walk_at "MEM") D1 hb1 (fun _ => .here) h0 hl hz fun e1' k1' t1 t2 D1n => ?_
  walk_at "WS"
  refine iteF hnl ?_
  walk_at "WS"
  refine iteF (by kernel_rfl) ?_
  refine W.nil ?_
  refine seqn ?_
  refine W.cons ?_
  exact (h _ _ _ _ D1n).seq0
theorem tEof {st q esc : Value} {nx : Option Value} {tok : Str} {tt : Tok} (ok : Ok C) (hr : C.A.depth < 870) (hns : C.fn.ns = f719.ns) (D : Dct es nsL (lexV x p1 p2 tk st tok tt) b) (hb : b < 900)
    (D1 : Dct e1 nsS [nl, some (.str buf tb), some (.int pos tp)] b1) (hb1 : b1 < 900) (hz : buf.length ≤ 1000000) (hl : (buf.length : Int) ≤ pos)
    (h : ∀ tc, W C (exec rtIf C.env) [some (.ref y), some q, some esc, some (.str (Str.ofString "") tc), none] ((dx, dictOf e1 k1) :: (dy, dictOf es k) :: (x, instObj 616 dx) :: (y, instObj 751 dy) :: r) QF) : W C (execs rtBody C.env) [some (.ref y), some q, some esc, nx, none] ((dx, dictOf e1 k1) :: (dy, dictOf es k) :: (x, instObj 616 dx) :: (y, instObj 751 dy) :: r) QF := by
  have hns : C.fn.ns = [Str.ofString "self", Str.ofString "quoted", Str.ofString "escapedstate", Str.ofString "nextchar", Str.ofString "result"] := hns
  conv => arg 2; arg 1; whnf
  walk_at "WS"
  refine gp ok (by omega) (by walk_at "MEM") (by walk_at "MEM") D ?_
  walk_at "WS"
  refine W.trs (by decide +kernel) ?_
  refine iteF (by kernel_rfl) ?_
  refine iteF rfl ?_
  walk_at "WS"
  refine W.getM ok co616 (es := e1) (k := k1) (b := b1) (vs := [nl, some (.str buf tb), some (.int pos tp)]) (by walk_at "MEM") (by walk_at "MEM") D1 (f := 562) (fun _ => by kernel_rfl) (fun _ => by kernel_rfl) (by kernel_rfl) ?_
  refine W.cwm ok (fo562.keep _) ?_
  walk_at "WS"
  refine s562e ok (by omega) (by walk_at "MEM") (by walk_at "MEM") D1 hl hz fun t2 => ?_
  walk_at "WS"
  refine iteF (by kernel_rfl) ?_
  walk_at "WS"
  refine iteF (by kernel_rfl) ?_
  refine W.nil ?_
  refine seqn ?_
  refine W.cons ?_
  exact (h _).seq0
end
end
-- MLexD
section
set_option maxHeartbeats 0
set_option autoImplicit false
local macro_rules | `(tactic| walk_at "GA") => `(tactic| (show W _ (getAttr _ _ _) _ _ _; refine W.getA (by assumption) co751 (by walk_at "MEM") (by walk_at "MEM") (by assumption) (by walk_at "AT") ?_))
local macro_rules | `(tactic| walk_at "WS") => `(tactic| repeat first | walk_at "W1" | walk_at "GA")
noncomputable abbrev ch (c : Nat) : Str := ⟨#[c]⟩
theorem slice_list_eq (x : Str) {a b : Nat} (hab : a ≤ b) (hb : b ≤ x.length) : (Txt.slice x (some (a : Int)) (some (b : Int))).cps.toList = (x.cps.toList.drop a).take (b - a) := by
  have e := StrLaws.sliced_plain x hab hb
  unfold Txt.slice
  split
  · rename_i h
    rw [StrLaws.strSliceIndices_plain hab hb] at h
    simp at h
    have hl : x.cps.toList.length = x.length := by simp [Str.length]
    have : a = 0 := by omega
    subst this
    rw [List.drop_zero, List.take_of_length_le (by omega)]
  · rw [e]
theorem slice_one {x : Str} {p : Nat} {c : Nat} {r : List Nat} (h : x.cps.toList.drop p = c :: r) : Txt.slice x (some (p : Int)) (some ((p : Int) + 1)) = ch c := by
  have hl : p < x.length := by
    have : p < x.cps.toList.length := by
      rcases Nat.lt_or_ge p x.cps.toList.length with q | q
      · exact q
      · rw [List.drop_eq_nil_of_le q] at h; cases h
    simpa [Str.length] using this
  have e := slice_list_eq x (a := p) (b := p + 1) (Nat.le_succ _) hl
  rw [h] at e
  have e2 : p + 1 - p = 1 := by omega
  rw [e2] at e
  have : ((p + 1 : Nat) : Int) = (p : Int) + 1 := by omega
  rw [this] at e
  cases q : Txt.slice x (some (p : Int)) (some ((p : Int) + 1)) with
  | mk cs =>
    rw [q] at e
    simp at e
    exact congrArg Str.mk (Array.toList_inj.mp e)
structure PlainC (c : Nat) : Prop where
  ws : hasC wsS (ch c) = false
  qs : hasC qsS (ch c) = false
  bs : hasC bsS (ch c) = false
  em : hasC (Str.ofString "") (ch c) = false
  nl : c ≠ 10
structure QuoC (c : Nat) : Prop where
  ws : hasC wsS (ch c) = false
  qs : hasC qsS (ch c) = true
  bs : hasC bsS (ch c) = false
  em : hasC (Str.ofString "") (ch c) = false
  wd : hasC wordS (ch c) = false
  nl : c ≠ 10
  sp : ((ch c).cps.toList == spS.cps.toList) = false
theorem quo39 : QuoC 39 := ⟨by decide +kernel, by decide +kernel, by decide +kernel, by decide +kernel, by decide +kernel, by decide, by decide +kernel⟩
theorem quo34 : QuoC 34 := ⟨by decide +kernel, by decide +kernel, by decide +kernel, by decide +kernel, by decide +kernel, by decide, by decide +kernel⟩
/-- the end of a run: the token, whether quoted, the state after it, what is left -/
structure RFin where
  tok : Str
  q : Bool
  st : Option Str
  rest : List Nat
/-- how read_token goes: state, token, quoted, what is left -/
inductive Run : Option Str → Str → Bool → List Nat → RFin → Prop
  | aEof {tok q} : Run (some (Str.ofString "a")) tok q [] ⟨tok, q, none, []⟩
  | aWs {tok q r} : (tok.length : Int) ≠ 0 → Run (some (Str.ofString "a")) tok q (32 :: r) ⟨tok, q, some spS, r⟩
  | aPut {tok q c r f} : PlainC c → Run (some (Str.ofString "a")) (tok ++ ch c) q r f → Run (some (Str.ofString "a")) tok q (c :: r) f
  | aQuo {tok q c r f} : QuoC c → Run (some (ch c)) tok q r f → Run (some (Str.ofString "a")) tok q (c :: r) f
  | sEof {tok q} : Run (some spS) tok q [] ⟨tok, q, none, []⟩
  | sPut {tok q c r f} : PlainC c → Run (some (Str.ofString "a")) (ch c) q r f → Run (some spS) tok q (c :: r) f
  | sQuo {tok q c r f} : QuoC c → Run (some (ch c)) tok q r f → Run (some spS) tok q (c :: r) f
  | qEnd {tok q c r f} : QuoC c → Run (some (Str.ofString "a")) tok true r f → Run (some (ch c)) tok q (c :: r) f
  | qPut {tok q s c r f} : QuoC s → c ≠ s → c ≠ 10 → hasC bsS (ch c) = false → Run (some (ch s)) (tok ++ ch c) true r f → Run (some (ch s)) tok q (c :: r) f
  | nEof {tok q} : Run none tok q [] ⟨Str.ofString "", q, none, []⟩
noncomputable def stV (t : Tok) : Option Str → Value
  | none => .none
  | some s => .str s t
noncomputable def rtWh : Stmt := match (bodyOf (mAt 26 6)).drop 2 with | s :: _ => s | [] => .Pass default
section
variable {C : Cx} {n : Led} {QF : Flow → Loc → Led → Prop} {x dx y dy p1 p2 : Addr} {tk : Nat → Tok} {es : List DictEntry} {k b : Nat} {e1 : List DictEntry} {k1 b1 : Nat} {r : Led} {buf : Str} {nl : Option Value} {tb tp : Tok}
theorem chlen (c : Nat) : ((ch c).length : Int) ≠ 0 := by show ((1 : Nat) : Int) ≠ 0; decide
theorem chnl {c : Nat} (h : c ≠ 10) : ((ch c).cps.toList == (Str.ofString "\n").cps.toList) = false := by
  show ([c] == [10]) = false
  simpa using h
theorem rtLoop {st : Option Str} {tok : Str} {q : Bool} {rest : List Nat} {f : RFin} {esc : Value} {nx : Option Value} {pos : Nat} {ts tt : Tok} (ok : Ok C) (hE : C.E = fun _ _ => False) (hr : C.A.depth < 870) (hns : C.fn.ns = f719.ns)
    (R : Run st tok q rest f) (D : Dct es nsL (lexV x p1 p2 tk (stV ts st) tok tt) b) (hb : b < 900)
    (D1 : Dct e1 nsS [nl, some (.str buf tb), some (.int pos tp)] b1) (hb1 : b1 < 900) (hz : buf.length ≤ 90000) (hp : buf.cps.toList.drop pos = rest) (hpl : pos ≤ buf.length) (htl : tok.length ≤ pos)
    (h : ∀ es' k' e1' k1' (ts tt tp : Tok) (esc : Value) (nx : Option Value) (pos : Nat), Dct es' nsL (lexV x p1 p2 tk (stV ts f.st) f.tok tt) b → Dct e1' nsS [nl, some (.str buf tb), some (.int pos tp)] b1 → buf.cps.toList.drop pos = f.rest → pos ≤ buf.length → f.tok.length ≤ pos →
      QF .next [some (.ref y), some (.bool f.q), some esc, nx, none] ((dx, dictOf e1' k1') :: (dy, dictOf es' k') :: (x, instObj 616 dx) :: (y, instObj 751 dy) :: r)) :
    W C (exec rtWh C.env) [some (.ref y), some (.bool q), some esc, nx, none] ((dx, dictOf e1 k1) :: (dy, dictOf es k) :: (x, instObj 616 dx) :: (y, instObj 751 dy) :: r) QF := by
  conv => arg 2; arg 1; whnf
  refine W.whileI hE (fun m L n => ∃ st tok q rest esc nx pos ts tt tp es k e1 k1, m = rest.length ∧ Run st tok q rest f ∧ L = [some (.ref y), some (.bool q), some esc, nx, none] ∧ n = ((dx, dictOf e1 k1) :: (dy, dictOf es k) :: (x, instObj 616 dx) :: (y, instObj 751 dy) :: r) ∧
    Dct es nsL (lexV x p1 p2 tk (stV ts st) tok tt) b ∧ Dct e1 nsS [nl, some (.str buf tb), some (.int ((pos : Nat) : Int) tp)] b1 ∧ buf.cps.toList.drop pos = rest ∧ pos ≤ buf.length ∧ tok.length ≤ pos) rest.length
    ⟨st, tok, q, rest, esc, nx, pos, ts, tt, tp, es, k, e1, k1, rfl, R, rfl, rfl, D, D1, hp, hpl, htl⟩ ?_
  rintro m L n ⟨st, tok, q, rest, esc, nx, pos, ts, tt, tp, es, k, e1, k1, rfl, R, rfl, rfl, D, D1, hp, hpl, htl⟩
  walk_at "WS"
  refine iteT rfl ?_
  show W C (execs rtBody C.env) _ _ _
  have hlen : buf.cps.toList.length = buf.length := by simp [Str.length]
  have eof : rest = [] → (buf.length : Int) ≤ ((pos : Nat) : Int) := fun e => by
    subst e
    have := List.drop_eq_nil_iff.mp hp
    omega
  have nxt : ∀ {c r}, rest = c :: r → (pos < buf.length ∧ buf.cps.toList.drop (pos + 1) = r) := fun {c r} e => by
    subst e
    have h1 : pos < buf.cps.toList.length := by
      rcases Nat.lt_or_ge pos buf.cps.toList.length with q | q
      · exact q
      · rw [List.drop_eq_nil_of_le q] at hp; cases hp
    refine ⟨by omega, ?_⟩
    rw [← List.drop_drop, hp]; rfl
  cases R with
  | aEof =>
    refine tEof ok hr hns D hb D1 hb1 (by omega) (eof rfl) fun tc => ?_
    refine lv0 ok hns D (lv1 ok hns D (by kernel_rfl) (lv2 ok hns D (by kernel_rfl) (lv3 ok hns D (by kernel_rfl) (lv4T ok hns D (by kernel_rfl) (aEof ok hr hns D hb rfl fun es' k' t t' D' => ?_)))))
    exact h _ _ _ _ 0 _ _ _ _ pos D' D1 hp hpl htl
  | nEof =>
    refine tEof ok hr hns D hb D1 hb1 (by omega) (eof rfl) fun tc => ?_
    refine nEnd ok hns D hb fun es' k' t t' D' => ?_
    exact h _ _ _ _ 0 _ _ _ _ pos D' D1 hp hpl (Nat.zero_le _)
  | sEof =>
    refine tEof ok hr hns D hb D1 hb1 (by omega) (eof rfl) fun tc => ?_
    refine lv0 ok hns D (lv1T ok hns D (by kernel_rfl) (sEof (st := spS) ok hr hns D hb rfl fun es' k' t t' D' => ?_))
    exact h _ _ _ _ 0 _ _ _ _ pos D' D1 hp hpl htl
  | @aWs _ _ _ ht =>
    obtain ⟨hlt, hd⟩ := nxt rfl
    have es1 := slice_one hp
    refine tRead ok hr hns D hb D1 hb1 (by omega) (by omega) (by omega) (by rw [es1]; exact chnl (by decide)) fun e1' k1' t1 tc D1' => ?_
    rw [es1]
    refine lv0 ok hns D (lv1 ok hns D (by kernel_rfl) (lv2 ok hns D (by kernel_rfl) (lv3 ok hns D (by kernel_rfl) (lv4T ok hns D (by kernel_rfl) ?_))))
    refine aWs ok hr hns D hb (chlen _) (by show 1 ≤ 4; decide) (by omega) (by decide +kernel) ht fun es' k' t t' D' => ?_
    exact h _ _ _ _ _ _ _ _ _ (pos + 1) D' D1' hd hlt (Nat.le_succ_of_le htl)
  | @aPut _ _ c _ _ pc R =>
    obtain ⟨hlt, hd⟩ := nxt rfl
    have es1 := slice_one hp
    refine tRead ok hr hns D hb D1 hb1 (by omega) (by omega) (by omega) (by rw [es1]; exact chnl pc.nl) fun e1' k1' t1 tc D1' => ?_
    rw [es1]
    refine lv0 ok hns D (lv1 ok hns D (by kernel_rfl) (lv2 ok hns D (by kernel_rfl) (lv3 ok hns D (by kernel_rfl) (lv4T ok hns D (by kernel_rfl) ?_))))
    refine aPut ok hr hns D hb (chlen _) (by show 1 ≤ 4; decide) (by omega) pc.ws pc.qs pc.bs pc.em fun es' k' t t' D' => ?_
    exact ⟨_, Nat.lt_succ_self _, some (Str.ofString "a"), _, _, _, _, _, pos + 1, _, _, _, _, _, _, _, rfl, R, rfl, rfl, D', D1', hd, hlt, by rw [Str.length_append]; show _ + 1 ≤ _; omega⟩
  | @aQuo _ _ c _ _ qc R =>
    obtain ⟨hlt, hd⟩ := nxt rfl
    have es1 := slice_one hp
    refine tRead ok hr hns D hb D1 hb1 (by omega) (by omega) (by omega) (by rw [es1]; exact chnl qc.nl) fun e1' k1' t1 tc D1' => ?_
    rw [es1]
    refine lv0 ok hns D (lv1 ok hns D (by kernel_rfl) (lv2 ok hns D (by kernel_rfl) (lv3 ok hns D (by kernel_rfl) (lv4T ok hns D (by kernel_rfl) ?_))))
    refine aQuo ok hr hns D hb (chlen _) (by show 1 ≤ 4; decide) qc.ws qc.qs qc.em fun es' k' t t' D' => ?_
    exact ⟨_, Nat.lt_succ_self _, some (ch c), _, _, _, _, _, pos + 1, _, _, _, _, _, _, _, rfl, R, rfl, rfl, D', D1', hd, hlt, by omega⟩
  | @sPut _ _ c _ _ pc R =>
    obtain ⟨hlt, hd⟩ := nxt rfl
    have es1 := slice_one hp
    refine tRead ok hr hns D hb D1 hb1 (by omega) (by omega) (by omega) (by rw [es1]; exact chnl pc.nl) fun e1' k1' t1 tc D1' => ?_
    rw [es1]
    refine lv0 ok hns D (lv1T ok hns D (by kernel_rfl) ?_)
    refine sPut (st := spS) ok hr hns D hb (chlen _) (by show 1 ≤ 4; decide) pc.ws pc.bs pc.em pc.qs fun es' k' t t' D' => ?_
    exact ⟨_, Nat.lt_succ_self _, some (Str.ofString "a"), _, _, _, _, _, pos + 1, _, _, _, _, _, _, _, rfl, R, rfl, rfl, D', D1', hd, hlt, by show 1 ≤ _; omega⟩
  | @sQuo _ _ c _ _ qc R =>
    obtain ⟨hlt, hd⟩ := nxt rfl
    have es1 := slice_one hp
    refine tRead ok hr hns D hb D1 hb1 (by omega) (by omega) (by omega) (by rw [es1]; exact chnl qc.nl) fun e1' k1' t1 tc D1' => ?_
    rw [es1]
    refine lv0 ok hns D (lv1T ok hns D (by kernel_rfl) ?_)
    refine sQuo (st := spS) ok hr hns D hb (chlen _) (by show 1 ≤ 4; decide) qc.ws qc.bs qc.em qc.qs qc.wd fun es' k' t t' D' => ?_
    exact ⟨_, Nat.lt_succ_self _, some (ch c), _, _, _, _, _, pos + 1, _, _, _, _, _, _, _, rfl, R, rfl, rfl, D', D1', hd, hlt, by omega⟩
  | @qEnd _ _ c _ _ qc R =>
    obtain ⟨hlt, hd⟩ := nxt rfl
    have es1 := slice_one hp
    refine tRead ok hr hns D hb D1 hb1 (by omega) (by omega) (by omega) (by rw [es1]; exact chnl qc.nl) fun e1' k1' t1 tc D1' => ?_
    rw [es1]
    refine lv0 ok hns D (lv1 ok hns D qc.sp (lv2T ok hns D qc.qs ?_))
    refine qEnd ok hr hns D hb (chlen _) (by show 1 ≤ 4; decide) (by simp) fun es' k' t t' D' => ?_
    exact ⟨_, Nat.lt_succ_self _, some (Str.ofString "a"), _, true, _, _, _, pos + 1, _, _, _, _, _, _, _, rfl, R, rfl, rfl, D', D1', hd, hlt, by omega⟩
  | @qPut _ _ s c _ _ qc hne h10 hbs R =>
    obtain ⟨hlt, hd⟩ := nxt rfl
    have es1 := slice_one hp
    refine tRead ok hr hns D hb D1 hb1 (by omega) (by omega) (by omega) (by rw [es1]; exact chnl h10) fun e1' k1' t1 tc D1' => ?_
    rw [es1]
    refine lv0 ok hns D (lv1 ok hns D qc.sp (lv2T ok hns D qc.qs ?_))
    refine qPut ok hr hns D hb (chlen _) (by show 1 ≤ 4; decide) (by omega) (by show ([c] == [s]) = false; simpa using hne) hbs fun es' k' t t' D' => ?_
    exact ⟨_, Nat.lt_succ_self _, some (ch s), _, true, _, _, _, pos + 1, _, _, _, _, _, _, _, rfl, R, rfl, rfl, D', D1', hd, hlt, by rw [Str.length_append]; show _ + 1 ≤ _; omega⟩
end
end
-- MLexE
section
set_option maxHeartbeats 0
set_option autoImplicit false
local macro_rules | `(tactic| walk_at "GA") => `(tactic| (show W _ (getAttr _ _ _) _ _ _; refine W.getA (by assumption) co751 (by walk_at "MEM") (by walk_at "MEM") (by assumption) (by walk_at "AT") ?_))
local macro_rules | `(tactic| walk_at "WS") => `(tactic| repeat first | walk_at "W1" | walk_at "GA")
section
variable {C : Cx} {L : Loc} {n : Led} {Q : Value → Loc → Led → Prop} {x dx y dy p1 p2 : Addr} {tk : Nat → Tok} {es : List DictEntry} {k b : Nat} {e1 : List DictEntry} {k1 b1 : Nat} {r : Led} {buf : Str} {nl : Option Value} {tb tp : Tok}
theorem s719 {st : Option Str} {rest : List Nat} {f : RFin} {pos : Nat} {ts tt : Tok} (ok : Ok C) (hr : C.A.depth < 860)
    (R : Run st (Str.ofString "") false rest f) (hne : (f.tok.cps.toList == (Str.ofString "").cps.toList) = false) (D : Dct es nsL (lexV x p1 p2 tk (stV ts st) (Str.ofString "") tt) b) (hb : b < 900)
    (D1 : Dct e1 nsS [nl, some (.str buf tb), some (.int pos tp)] b1) (hb1 : b1 < 900) (hz : buf.length ≤ 90000) (hp : buf.cps.toList.drop pos = rest) (hpl : pos ≤ buf.length)
    (h : ∀ es' k' e1' k1' (ts tt tp t : Tok) (pos : Nat), Dct es' nsL (lexV x p1 p2 tk (stV ts f.st) (Str.ofString "") tt) b → Dct e1' nsS [nl, some (.str buf tb), some (.int pos tp)] b1 → buf.cps.toList.drop pos = f.rest → pos ≤ buf.length →
      Q (.str f.tok t) L ((dx, dictOf e1' k1') :: (dy, dictOf es' k') :: (x, instObj 616 dx) :: (y, instObj 751 dy) :: r)) :
    W C (call (.ref 719) [.ref y]) L ((dx, dictOf e1 k1) :: (dy, dictOf es k) :: (x, instObj 616 dx) :: (y, instObj 751 dy) :: r) Q := by
  refine W.cf (f := f719) [some (.ref y), none, none, none, none] ok fo719 (by show _ < 1000; omega) (by kernel_rfl) rfl fun C' ok' hf hw hdd hu => ?_
  have hns : C'.fn.ns = [Str.ofString "self", Str.ofString "quoted", Str.ofString "escapedstate", Str.ofString "nextchar", Str.ofString "result"] := congrArg Fn.ns hf
  conv => arg 2; arg 1; whnf
  refine W.cons ?_
  refine W.assn ?_
  refine W.cbool ?_
  refine W.st ok' hns (by walk_at "SET") ?_
  refine seqn ?_
  refine W.cons ?_
  refine W.assn ?_
  refine W.cstr fun t0 => ?_
  refine W.st ok' hns (by walk_at "SET") ?_
  refine seqn ?_
  refine W.cons ?_
  refine rtLoop ok' hu (by omega) hns R D hb D1 hb1 hz hp hpl (Nat.zero_le _) fun es' k' e1' k1' ts tt tp esc nx pos D' D1' hp' hpl' htl => ?_
  walk_at "WS"
  refine sA (by assumption) (by assumption) (by omega) (by walk_at "AT") (by walk_at "SET") ?_
  intro es2 k2 D2
  walk_at "WS"
  refine iteT rfl ?_
  have fin : W C' (execs ((bodyOf (mAt 26 6)).drop 6) C'.env) [some (.ref y), some (.bool f.q), some esc, nx, some (.str f.tok tt)] ((dx, dictOf e1' k1') :: (dy, dictOf es2 k2) :: (x, instObj 616 dx) :: (y, instObj 751 dy) :: r) (fun fl _ n' => Q (retOf fl) L n') := by
    conv => arg 2; arg 1; whnf
    walk_at "WS"
    refine iteF rfl ?_
    walk_at "WS"
    exact h _ _ _ _ _ _ _ _ _ D2 D1' hp' hpl'
  walk_at "WS"
  cases hq : f.q with
  | true =>
    refine iteF (by rfl) ?_
    refine iteF (by rfl) ?_
    refine W.nil ?_
    refine seqn ?_
    rw [hq] at fin
    exact fin
  | false =>
    refine iteT (by rfl) ?_
    walk_at "WS"
    refine iteF hne ?_
    refine iteF (by rfl) ?_
    refine W.nil ?_
    refine seqn ?_
    rw [hq] at fin
    exact fin
theorem s719e {st : Option Str} {rest : List Nat} {f : RFin} {pos : Nat} {ts tt : Tok} (ok : Ok C) (hr : C.A.depth < 860)
    (R : Run st (Str.ofString "") false rest f) (hne : f.tok = Str.ofString "") (hfq : f.q = false) (D : Dct es nsL (lexV x p1 p2 tk (stV ts st) (Str.ofString "") tt) b) (hb : b < 900)
    (D1 : Dct e1 nsS [nl, some (.str buf tb), some (.int pos tp)] b1) (hb1 : b1 < 900) (hz : buf.length ≤ 90000) (hp : buf.cps.toList.drop pos = rest) (hpl : pos ≤ buf.length)
    (h : ∀ es' k' e1' k1' (ts tt tp t : Tok) (pos : Nat), Dct es' nsL (lexV x p1 p2 tk (stV ts f.st) (Str.ofString "") tt) b → Dct e1' nsS [nl, some (.str buf tb), some (.int pos tp)] b1 → buf.cps.toList.drop pos = f.rest → pos ≤ buf.length →
      Q .none L ((dx, dictOf e1' k1') :: (dy, dictOf es' k') :: (x, instObj 616 dx) :: (y, instObj 751 dy) :: r)) :
    W C (call (.ref 719) [.ref y]) L ((dx, dictOf e1 k1) :: (dy, dictOf es k) :: (x, instObj 616 dx) :: (y, instObj 751 dy) :: r) Q := by
  refine W.cf (f := f719) [some (.ref y), none, none, none, none] ok fo719 (by show _ < 1000; omega) (by kernel_rfl) rfl fun C' ok' hf hw hdd hu => ?_
  have hns : C'.fn.ns = [Str.ofString "self", Str.ofString "quoted", Str.ofString "escapedstate", Str.ofString "nextchar", Str.ofString "result"] := congrArg Fn.ns hf
  conv => arg 2; arg 1; whnf
  refine W.cons ?_
  refine W.assn ?_
  refine W.cbool ?_
  refine W.st ok' hns (by walk_at "SET") ?_
  refine seqn ?_
  refine W.cons ?_
  refine W.assn ?_
  refine W.cstr fun t0 => ?_
  refine W.st ok' hns (by walk_at "SET") ?_
  refine seqn ?_
  refine W.cons ?_
  refine rtLoop ok' hu (by omega) hns R D hb D1 hb1 hz hp hpl (Nat.zero_le _) fun es' k' e1' k1' ts tt tp esc nx pos D' D1' hp' hpl' htl => ?_
  walk_at "WS"
  refine sA (by assumption) (by assumption) (by omega) (by walk_at "AT") (by walk_at "SET") ?_
  intro es2 k2 D2
  walk_at "WS"
  refine iteT rfl ?_
  walk_at "WS"
  rw [hfq]
  refine iteT (by rfl) ?_
  walk_at "WS"
  rw [hne]
  refine iteT (by kernel_rfl) ?_
  walk_at "WS"
  refine iteT (by rfl) ?_
  walk_at "WS"
  refine iteF (by rfl) ?_
  walk_at "WS"
  exact h _ _ _ _ _ _ _ 0 _ D2 D1' hp' hpl'
end
end
-- MLexF
section
set_option maxHeartbeats 0
set_option autoImplicit false
local macro_rules | `(tactic| walk_at "GA") => `(tactic| (show W _ (getAttr _ _ _) _ _ _; refine W.getA (by assumption) co751 (by walk_at "MEM") (by walk_at "MEM") (by assumption) (by walk_at "AT") ?_))
local macro_rules | `(tactic| walk_at "WS") => `(tactic| repeat first | walk_at "W1" | walk_at "GA")
section
variable {C : Cx} {L : Loc} {n : Led} {Q : Value → Loc → Led → Prop} {x dx y dy p1 p2 : Addr} {tk : Nat → Tok} {es : List DictEntry} {k b : Nat} {e1 : List DictEntry} {k1 b1 : Nat} {r : Led} {buf : Str} {nl : Option Value} {tb tp : Tok}
theorem W.eqsn {a : Str} {t : Tok} (h : Q (.bool false) L n) : W C (compareOp .Eq (.str a t) .none) L n Q := fun _ hs => PySem.EqNone.eq_str_none ⟨_, _, hs, h⟩
theorem W.eqnn (h : Q (.bool true) L n) : W C (compareOp .Eq .none .none) L n Q := fun _ hs => PySem.EqNone.eq_none_none ⟨_, _, hs, h⟩
theorem s712 {st : Option Str} {rest : List Nat} {f : RFin} {pos : Nat} {ts tt : Tok} (ok : Ok C) (hr : C.A.depth < 850) (h1 : (p1, dqO) ∈ r) (h2 : (p2, dqO) ∈ r)
    (R : Run st (Str.ofString "") false rest f) (hne : (f.tok.cps.toList == (Str.ofString "").cps.toList) = false) (D : Dct es nsL (lexV x p1 p2 tk (stV ts st) (Str.ofString "") tt) b) (hb : b < 900)
    (D1 : Dct e1 nsS [nl, some (.str buf tb), some (.int pos tp)] b1) (hb1 : b1 < 900) (hz : buf.length ≤ 90000) (hp : buf.cps.toList.drop pos = rest) (hpl : pos ≤ buf.length)
    (h : ∀ es' k' e1' k1' (ts tt tp t : Tok) (pos : Nat), Dct es' nsL (lexV x p1 p2 tk (stV ts f.st) (Str.ofString "") tt) b → Dct e1' nsS [nl, some (.str buf tb), some (.int pos tp)] b1 → buf.cps.toList.drop pos = f.rest → pos ≤ buf.length →
      Q (.str f.tok t) L ((dx, dictOf e1' k1') :: (dy, dictOf es' k') :: (x, instObj 616 dx) :: (y, instObj 751 dy) :: r)) :
    W C (call (.ref 712) [.ref y]) L ((dx, dictOf e1 k1) :: (dy, dictOf es k) :: (x, instObj 616 dx) :: (y, instObj 751 dy) :: r) Q := by
  refine W.cf (f := f712) [some (.ref y), none, none, none, none, none] ok fo712 (by show _ < 1000; omega) (by kernel_rfl) rfl fun C' ok' hf hw hdd hu => ?_
  have hns : C'.fn.ns = [Str.ofString "self", Str.ofString "tok", Str.ofString "raw", Str.ofString "spec", Str.ofString "newfile", Str.ofString "newstream"] := congrArg Fn.ns hf
  conv => arg 2; arg 1; whnf
  walk_at "WS"
  refine W.trDq (.tail _ (.tail _ (.tail _ (.tail _ h1)))) ?_
  refine iteF rfl ?_
  walk_at "WS"
  refine W.getM ok' co751 (by walk_at "MEM") (by walk_at "MEM") D (f := 719) (fun _ => by kernel_rfl) (fun _ => by kernel_rfl) (by kernel_rfl) ?_
  refine W.cwm0 ok' (fo719.keep _) ?_
  refine s719 ok' (by omega) R hne D hb D1 hb1 hz hp hpl fun es' k' e1' k1' ts' tt' tp' t' pos' D' D1' hp' hpl' => ?_
  walk_at "WS"
  refine iteF rfl ?_
  walk_at "WS"
  refine W.whileI hu (fun _ L n => L = [some (.ref y), none, some (.str f.tok t'), none, none, none] ∧ n = ((dx, dictOf e1' k1') :: (dy, dictOf es' k') :: (x, instObj 616 dx) :: (y, instObj 751 dy) :: r)) 0 ⟨rfl, rfl⟩ ?_
  rintro m L n ⟨rfl, rfl⟩
  walk_at "WS"
  refine W.eqsn ?_
  walk_at "WS"
  refine iteF rfl ?_
  walk_at "WS"
  refine iteF (by kernel_rfl) ?_
  walk_at "WS"
  exact h _ _ _ _ _ _ _ _ _ D' D1' hp' hpl'

theorem s712e {st : Option Str} {rest : List Nat} {f : RFin} {pos : Nat} {ts tt : Tok} (ok : Ok C) (hr : C.A.depth < 850) (h1 : (p1, dqO) ∈ r) (h2 : (p2, dqO) ∈ r)
    (R : Run st (Str.ofString "") false rest f) (hne : f.tok = Str.ofString "") (hfq : f.q = false) (D : Dct es nsL (lexV x p1 p2 tk (stV ts st) (Str.ofString "") tt) b) (hb : b < 900)
    (D1 : Dct e1 nsS [nl, some (.str buf tb), some (.int pos tp)] b1) (hb1 : b1 < 900) (hz : buf.length ≤ 90000) (hp : buf.cps.toList.drop pos = rest) (hpl : pos ≤ buf.length)
    (h : ∀ es' k' e1' k1' (ts tt tp t : Tok) (pos : Nat), Dct es' nsL (lexV x p1 p2 tk (stV ts f.st) (Str.ofString "") tt) b → Dct e1' nsS [nl, some (.str buf tb), some (.int pos tp)] b1 → buf.cps.toList.drop pos = f.rest → pos ≤ buf.length →
      Q .none L ((dx, dictOf e1' k1') :: (dy, dictOf es' k') :: (x, instObj 616 dx) :: (y, instObj 751 dy) :: r)) :
    W C (call (.ref 712) [.ref y]) L ((dx, dictOf e1 k1) :: (dy, dictOf es k) :: (x, instObj 616 dx) :: (y, instObj 751 dy) :: r) Q := by
  refine W.cf (f := f712) [some (.ref y), none, none, none, none, none] ok fo712 (by show _ < 1000; omega) (by kernel_rfl) rfl fun C' ok' hf hw hdd hu => ?_
  have hns : C'.fn.ns = [Str.ofString "self", Str.ofString "tok", Str.ofString "raw", Str.ofString "spec", Str.ofString "newfile", Str.ofString "newstream"] := congrArg Fn.ns hf
  conv => arg 2; arg 1; whnf
  walk_at "WS"
  refine W.trDq (.tail _ (.tail _ (.tail _ (.tail _ h1)))) ?_
  refine iteF rfl ?_
  walk_at "WS"
  refine W.getM ok' co751 (by walk_at "MEM") (by walk_at "MEM") D (f := 719) (fun _ => by kernel_rfl) (fun _ => by kernel_rfl) (by kernel_rfl) ?_
  refine W.cwm0 ok' (fo719.keep _) ?_
  refine s719e ok' (by omega) R hne hfq D hb D1 hb1 hz hp hpl fun es' k' e1' k1' ts' tt' tp' t' pos' D' D1' hp' hpl' => ?_
  walk_at "WS"
  refine iteF rfl ?_
  walk_at "WS"
  refine W.whileI hu (fun _ L n => L = [some (.ref y), none, some .none, none, none, none] ∧ n = ((dx, dictOf e1' k1') :: (dy, dictOf es' k') :: (x, instObj 616 dx) :: (y, instObj 751 dy) :: r)) 0 ⟨rfl, rfl⟩ ?_
  rintro m L n ⟨rfl, rfl⟩
  walk_at "WS"
  refine W.eqnn ?_
  walk_at "WS"
  refine iteT rfl ?_
  walk_at "WS"
  refine W.trDq (.tail _ (.tail _ (.tail _ (.tail _ h2)))) ?_
  refine iteT rfl ?_
  walk_at "WS"
  exact h _ _ _ _ _ _ _ 0 _ D' D1' hp' hpl'

end
end
-- ML3
section
set_option maxHeartbeats 0
set_option autoImplicit false
theorem slice_from {x : Str} {a : Nat} (ha : a ≤ x.length) : (Txt.slice x (some (a : Int)) none).cps.toList = x.cps.toList.drop a := by
  have e : Builtin.Str.strSliceIndices (some (a : Int)) none 1 x.length = Builtin.Str.strSliceIndices (some (a : Int)) (some (x.length : Int)) 1 x.length := by
    unfold Builtin.Str.strSliceIndices
    have h2 : ¬ ((x.length : Int) < 0) := by omega
    have e2 : max (0 : Int) (min (x.length : Int) (x.length : Int)) = x.length := by omega
    simp only [h2, if_false, e2]
    first | rfl | simp
  have h := slice_list_eq x (a := a) (b := x.length) ha (Nat.le_refl _)
  unfold Txt.slice at h ⊢
  rw [e, h, List.take_of_length_le]
  have hl : x.cps.toList.length = x.length := by simp [Str.length]
  rw [List.length_drop, hl]
  exact Nat.le_refl _
theorem dec_chars : ∀ d : Fin 8, (Str.ofString (toString ((d : Nat) : Int))) = (⟨#[48 + (d : Nat)]⟩ : Str) := by decide +kernel
theorem dec_char {d : Nat} (h : d < 8) : Str.ofString (toString (d : Int)) = (⟨#[48 + d]⟩ : Str) := dec_chars ⟨d, h⟩
noncomputable def wordC (p : Bool) (m : Nat) : List Nat := [if p then 43 else 45, 48 + m / 512, 48 + m / 64 % 8, 48 + m / 8 % 8, 48 + m % 8]
theorem word_chars {p : Bool} {m : Nat} (hm : m < 4096) : signS p ++ figS m = ⟨(wordC p m).toArray⟩ := by
  have e3 : (m : Int).fdiv 512 = ((m / 512 : Nat) : Int) := by rw [Int.fdiv_eq_ediv_of_nonneg _ (by omega)]; omega
  have e2 : ((m : Int).fdiv 64).fmod 8 = ((m / 64 % 8 : Nat) : Int) := by rw [Int.fdiv_eq_ediv_of_nonneg _ (by omega), Int.fmod_eq_emod_of_nonneg _ (by omega)]; omega
  have e1 : ((m : Int).fdiv 8).fmod 8 = ((m / 8 % 8 : Nat) : Int) := by rw [Int.fdiv_eq_ediv_of_nonneg _ (by omega), Int.fmod_eq_emod_of_nonneg _ (by omega)]; omega
  have e0 : (m : Int).fmod 8 = ((m % 8 : Nat) : Int) := by rw [Int.fmod_eq_emod_of_nonneg _ (by omega)]; omega
  unfold figS decS
  rw [e3, e2, e1, e0, dec_char (by omega), dec_char (by omega), dec_char (by omega), dec_char (by omega)]
  cases p <;> rfl
theorem word_len {p : Bool} {m : Nat} (hm : m < 4096) : (signS p ++ figS m).length = 5 := by rw [word_chars hm]; rfl
theorem word_tail {p : Bool} {m : Nat} (hm : m < 4096) : Txt.slice (signS p ++ figS m) (some 1) none = ⟨((wordC p m).drop 1).toArray⟩ := by
  have h := slice_from (x := signS p ++ figS m) (a := 1) (by rw [word_len hm]; omega)
  have h : (Txt.slice (signS p ++ figS m) (some 1) none).cps.toList = _ := h
  cases q : Txt.slice (signS p ++ figS m) (some 1) none with
  | mk cs =>
    rw [q, word_chars hm] at h
    have h' : cs = ((wordC p m).drop 1).toArray := Array.toList_inj.mp (by simpa using h)
    rw [h']
theorem int_sign : ∀ d : Fin 8, PySem.intText? (⟨#[48 + (d : Nat)]⟩ : Str) = some ((d : Nat) : Int) := by decide +kernel
end
-- ML4
section
set_option maxHeartbeats 0
set_option autoImplicit false
noncomputable def pw8 (m : Nat) : Nat → Nat
  | 0 => 0
  | 1 => m / 512
  | 2 => m / 64
  | 3 => m / 8
  | _ => m
theorem pw_step {p : Bool} {m i c : Nat} (hm : m < 4096) (hi : i < 4) (h : ((wordC p m).drop 1)[i]? = some c) : ∃ d : _root_.Fin 8, c = 48 + (d : Nat) ∧ pw8 m i * 8 + (d : Nat) = pw8 m (i + 1) := by
  match i, hi with
  | 0, _ =>
    have : c = 48 + m / 512 := by simpa [wordC] using h.symm
    exact ⟨⟨m / 512, by omega⟩, this, by simp [pw8]⟩
  | 1, _ =>
    have : c = 48 + m / 64 % 8 := by simpa [wordC] using h.symm
    exact ⟨⟨m / 64 % 8, by omega⟩, this, by simp only [pw8]; omega⟩
  | 2, _ =>
    have : c = 48 + m / 8 % 8 := by simpa [wordC] using h.symm
    exact ⟨⟨m / 8 % 8, by omega⟩, this, by simp only [pw8]; omega⟩
  | 3, _ =>
    have : c = 48 + m % 8 := by simpa [wordC] using h.symm
    exact ⟨⟨m % 8, by omega⟩, this, by simp only [pw8]; omega⟩
/-- what _law_read makes of a rule -/
noncomputable def zoneOf (r : Rule) : Str := zoneS (zoneL.getD r.place (false, []))
noncomputable def RdIn (n : Led) (v : Value) (r : Rule) : Prop := ∃ t tm tz, v = .ref t ∧ (t, tupOf [.bool r.plus, .int r.mask tm, .str (zoneOf r) tz]) ∈ n
theorem RdIn.mono {n n' : Led} {v : Value} {r : Rule} (h : RdIn n v r) (k : ∀ p ∈ n, p ∈ n') : RdIn n' v r := let ⟨t, tm, tz, a, b⟩ := h; ⟨t, tm, tz, a, k _ b⟩
theorem words_get {rs : List Rule} {i : Nat} {r : Rule} (h : rs[i]? = some r) : (wordsS rs)[2 * i]? = some (signS r.plus ++ figS r.mask) ∧ (wordsS rs)[2 * i + 1]? = some (zoneOf r) := by
  induction rs generalizing i with
  | nil => simp at h
  | cons a rs ih =>
    have e : wordsS (a :: rs) = (signS a.plus ++ figS a.mask) :: zoneOf a :: wordsS rs := rfl
    rw [e]
    cases i with
    | zero => simp at h; subst h; exact ⟨rfl, rfl⟩
    | succ i =>
      have := ih (i := i) (by simpa using h)
      exact this
theorem strsGet {vs : List Value} {ss : List Str} (h : StrsAre vs ss) : ∀ {i : Nat} {x : Str}, ss[i]? = some x → ∃ t, vs[i]? = some (.str x t) := by
  induction h with
  | nil => intro i x e; simp at e
  | cons y t _ ih =>
    intro i x e
    cases i with
    | zero => simp at e; subst e; exact ⟨t, rfl⟩
    | succ i => exact ih (by simpa using e)
theorem rs2 (n : Nat) : Builtin.Range.rangeSize 0 ((2 * n : Nat) : Int) 2 = (n : Int) := by
  unfold Builtin.Range.rangeSize
  simp only [show (2 : Int) > 0 by decide, if_true]
  split <;> omega
theorem small2 {n : Nat} (h : n ≤ 8) : Builtin.Range.small 0 ((2 * n : Nat) : Int) 2 = true := by
  have : ∀ k : _root_.Fin 9, Builtin.Range.small 0 ((2 * (k : Nat) : Nat) : Int) 2 = true := by decide +kernel
  exact this ⟨n, by omega⟩
section
variable {C : Cx} {L : Loc} {n : Led} {Q : Value → Loc → Led → Prop}
theorem s860 {Wd : Addr} {ws : List Value} {kk : Nat} {rs : List Rule} (ok : Ok C) (hr : C.A.depth < 890) (hW : (Wd, listOf ws.toArray kk) ∈ n) (hws : StrsAre ws (wordsS rs)) (hok : ∀ r ∈ rs, RuleOk r) (hlen : rs.length ≤ 8)
    (h : ∀ Rd n' vs k, (Rd, listOf (List.toArray vs) k) ∈ n' → All2 (RdIn n') vs rs → Q (.ref Rd) L (n' ++ n)) : W C (call (.ref 860) [.ref Wd]) L n Q := by
  refine W.cf (f := f860) [some (.ref Wd), none, none, none, none] ok fo860 (by show _ < 1000; omega) (by kernel_rfl) rfl fun C' ok' hf hw hd hu => ?_
  have hns : C'.fn.ns = [Str.ofString "words", Str.ofString "rules", Str.ofString "k", Str.ofString "mask", Str.ofString "figure"] := congrArg Fn.ns hf
  have hgn : C'.fn.gns = f860.gns := congrArg Fn.gns hf
  have hwl : ws.length = 2 * rs.length := by rw [hws.length, words_len]
  conv => arg 2; arg 1; whnf
  walk_at "WS"
  rename_i Rd
  refine W.forI ok' hu ?_
  walk_at "WS"
  walk_at "BL"
  walk_at "WS"
  walk_at "BL"
  walk_at "WS"
  refine W.lenL (.tail _ hW) (by simp; omega) fun t1 => ?_
  walk_at "WS"
  refine W.range3 (by decide) (PyProof.noPylong_small (by decide)) fun rg => ?_
  have hsz : ((ws.toArray.size : Nat) : Int) = ((2 * rs.length : Nat) : Int) := by simp [hwl]
  refine W.iterR ok' (k := rs.length) (.head _) (by rw [hsz]; exact small2 hlen) (by rw [hsz]; exact rs2 _) fun I It => ?_
  rename_i tb ta
  refine ⟨I, _, _, _, _, fun i L n1 => ∃ a b c vs k n', L = [some (.ref Wd), some (.ref Rd), a, b, c] ∧ n1.Perm ((Rd, listOf (List.toArray vs) k) :: (n' ++ ((rg, rangeO 0 (ws.toArray.size : Nat) 2 tb t1 ta) :: n))) ∧ All2 (RdIn n') vs (rs.take i), _, _, rfl, rfl, It, ⟨_, rfl, rfl⟩,
    ⟨_, _, _, [], 0, [], rfl, List.Perm.swap _ _ _, .nil⟩, fun _ _ _ _ => trivial, ?_, ?_⟩
  · rintro L1 n1 ⟨a, b, c, vs, k, n', rfl, hp, hvs⟩
    refine W.perm hp.symm ?_
    walk_at "WS"
    rw [List.take_length] at hvs
    have := h Rd ((Rd, listOf (List.toArray vs) k) :: (n' ++ [(rg, rangeO 0 (ws.toArray.size : Nat) 2 tb t1 ta)])) vs k (.head _) (hvs.mono fun _ _ x => x.mono fun p hp => .tail _ (List.mem_append_left _ hp))
    rw [List.cons_append, List.append_assoc] at this
    exact this
  · rintro C2 hid ok2 i v q L1 n1 hi ⟨rfl, tv, rfl⟩ ⟨a, b, c, vs, k, n', rfl, hp, hvs⟩
    have hns : C2.fn.ns = [Str.ofString "words", Str.ofString "rules", Str.ofString "k", Str.ofString "mask", Str.ofString "figure"] := (congrArg Fn.ns hid.fn).trans hns
    have hgn : C2.fn.gns = f860.gns := (congrArg Fn.gns hid.fn).trans hgn
    refine W.perm hp.symm ?_
    obtain ⟨ru, hru⟩ : ∃ ru, rs[i]? = some ru := ⟨rs[i], by simp [hi]⟩
    have rok := hok ru (List.mem_of_getElem? hru)
    obtain ⟨hg1, hg2⟩ := words_get hru
    obtain ⟨tw, hw1⟩ := strsGet hws hg1
    obtain ⟨tz, hw2⟩ := strsGet hws hg2
    refine W.asgN ?_
    walk_at "WS"
    refine W.forI ok2 (hid.E.trans hu) ?_
    have hWn : (Wd, listOf ws.toArray kk) ∈ ((Rd, listOf (List.toArray vs) k) :: (n' ++ ((rg, rangeO 0 (ws.toArray.size : Nat) 2 tb t1 ta) :: n))) := .tail _ (List.mem_append_right _ (.tail _ hW))
    have hix : ((0 : Int) + (i : Int) * 2).toNat = 2 * i := by omega
    refine W.slSN ?_
    refine W.subs ?_
    walk_at "WS"
    refine W.item hWn (by omega) (by omega) (by rw [hix]; exact hw1) ?_
    walk_at "WS"
    refine ⟨_, _, _, _, rfl, rfl, by rw [word_len rok.mask]; unfold sizeLine; decide, fun t2 => ?_⟩
    rw [word_tail rok.mask]
    refine W.iterS ok2 ?_ fun I2 o2 ho2 It2 => ?_
    · have := rok.mask
      simp [wordC]
      omega
    refine ⟨I2, _, _, _, _, fun j L n1 => ∃ c tm, L = [some (.ref Wd), some (.ref Rd), some (.int (0 + (i : Int) * 2) tv), some (.int (pw8 ru.mask j : Nat) tm), c] ∧ n1 = ((Rd, listOf (List.toArray vs) k) :: (n' ++ ((rg, rangeO 0 (ws.toArray.size : Nat) 2 tb t1 ta) :: n))), _, _, rfl, rfl, It2, ⟨o2, rfl, ho2⟩,
      ⟨_, _, rfl, rfl⟩, fun _ _ _ _ => trivial, ?_, ?_⟩
    · rintro L3 n3 ⟨c3, tm, rfl, rfl⟩
      have e4 : (⟨((wordC ru.plus ru.mask).drop 1).toArray⟩ : Str).cps.size = 4 := rfl
      rw [e4]
      walk_at "WS"
      refine W.getAppend (.head _) ?_
      refine W.cbm ?_
      walk_at "WS"
      refine W.subs ?_
      refine W.subs ?_
      walk_at "WS"
      refine W.item hWn (by omega) (by omega) (by rw [hix]; exact hw1) ?_
      walk_at "WS"
      refine W.strItem (c := if ru.plus then 43 else 45) (by decide) (by rw [word_chars rok.mask]; rfl) (by rw [word_len rok.mask]; decide) fun t5 => ?_
      walk_at "WS"
      refine W.subs ?_
      walk_at "WS"
      refine W.item hWn (by omega) (by omega) (by rw [show ((0 : Int) + (i : Int) * 2 + 1).toNat = 2 * i + 1 by omega]; exact hw2) ?_
      walk_at "WS"
      rename_i tt
      refine W.append (N := fun o => (tt, _) :: (Rd, o) :: (n' ++ ((rg, rangeO 0 (ws.toArray.size : Nat) 2 tb t1 ta) :: n))) (fun _ => .there .here) ?_ fun k3 => ?_
      · have : vs.length ≤ 8 := by
          rw [hvs.len, List.length_take]; omega
        simp; unfold sizeLine; omega
      walk_at "WS"
      have eb : ((⟨#[if ru.plus = true then 43 else 45]⟩ : Str).cps.toList == (Str.ofString "+").cps.toList) = ru.plus := by
        cases ru.plus <;> rfl
      rw [eb]
      refine ⟨_, _, _, vs ++ [.ref tt], k3, (tt, tupOf [.bool ru.plus, .int (pw8 ru.mask 4 : Nat) tm, .str (zoneOf ru) tz]) :: n', rfl, ?_, ?_⟩
      · rw [← List.push_toArray]
        exact List.Perm.swap _ _ _
      · have e : rs.take (i + 1) = rs.take i ++ [ru] := by rw [List.take_add_one, hru]; rfl
        rw [e]
        exact (hvs.mono fun _ _ x => x.mono fun p hp => .tail _ hp).snoc ⟨tt, tm, tz, rfl, .head _⟩
    · rintro C3 hid3 ok3 j v3 q3 L3 n3 hj ⟨rfl, cc, uu, hcc, rfl⟩ ⟨c3, tm, rfl, rfl⟩
      have hns : C3.fn.ns = [Str.ofString "words", Str.ofString "rules", Str.ofString "k", Str.ofString "mask", Str.ofString "figure"] := (congrArg Fn.ns hid3.fn).trans hns
      have hgn : C3.fn.gns = f860.gns := (congrArg Fn.gns hid3.fn).trans hgn
      obtain ⟨dd, rfl, hdd⟩ := pw_step (p := ru.plus) rok.mask (show j < 4 from hj) (by simpa using hcc)
      refine W.asgN ?_
      walk_at "WS"
      refine W.mul (IntMulOk.of_right (by decide +kernel)) fun t6 => ?_
      walk_at "WS"
      walk_at "BL"
      walk_at "WS"
      refine W.intOf (int_sign dd) (by show 1 ≤ 640; decide) fun t7 => ?_
      walk_at "WS"
      refine ⟨_, _, by rw [← hdd]; rfl, rfl⟩
end
end
-- MU2
section
set_option maxHeartbeats 0
set_option autoImplicit false
noncomputable def zlow : List String := [".b", ".a.b", "a.b", ".it's.b", "it's.b", ".7", "a.7", "b"]
theorem zlow_ok : ∀ p : _root_.Fin 8, Txt.lower (zoneS (zoneL.getD p (false, []))) = Str.ofString (zlow.getD p "") ∧ zlow.getD p "" ∈ ipNo ++ ipYes ∧ (zoneS (zoneL.getD p (false, []))).length ≤ 100 := by decide +kernel
/-- what a rule does to the held mode -/
noncomputable def stepI (hl : String) (held : Int) (r : Rule) : Int :=
  if udm hl (zlow.getD r.place "") then (if r.plus then Builtin.bitOr held r.mask else Builtin.bitAnd held 61440 + Builtin.bitAnd (Builtin.bitAnd held 4095) (4095 - r.mask)) else held
noncomputable def ledI (hl : String) (start : Int) (rs : List Rule) : Int := rs.foldl (stepI hl) start
section
variable {C : Cx} {L : Loc} {n : Led} {Q : Value → Loc → Led → Prop}
theorem s792 {m : Int} {t : Tok} (ok : Ok C) (hr : C.A.depth < 900) (h : ∀ t, Q (.int (Builtin.bitAnd m 61440) t) L n) : W C (call (.ref 792) [.int m t]) L n Q := by
  refine W.cf (f := f792) [some (.int m t)] ok fo792 (by show _ < 1000; omega) (by kernel_rfl) rfl fun C' ok' hf hw hd hu => ?_
  have hns : C'.fn.ns = [Str.ofString "mode"] := congrArg Fn.ns hf
  conv => arg 2; arg 1; whnf
  walk_at "WS"
  exact h _
theorem s785 {m : Int} {t : Tok} (ok : Ok C) (hr : C.A.depth < 900) (h : ∀ t, Q (.int (Builtin.bitAnd m 4095) t) L n) : W C (call (.ref 785) [.int m t]) L n Q := by
  refine W.cf (f := f785) [some (.int m t)] ok fo785 (by show _ < 1000; omega) (by kernel_rfl) rfl fun C' ok' hf hw hd hu => ?_
  have hns : C'.fn.ns = [Str.ofString "mode"] := congrArg Fn.ns hf
  conv => arg 2; arg 1; whnf
  walk_at "WS"
  exact h _
theorem s867 {Wd : Addr} {ws : List Value} {kk : Nat} {rs : List Rule} {start : Int} {ts th : Tok} {H : Str} {hl : String} (ok : Ok C) (hr : C.A.depth < 880) (hW : (Wd, listOf ws.toArray kk) ∈ n) (hws : StrsAre ws (wordsS rs)) (hok : ∀ r ∈ rs, RuleOk r) (hlen : rs.length ≤ 8)
    (hH : Txt.lower H = Str.ofString hl) (hhl : hl ∈ ipNo ++ ipYes) (lH : H.length ≤ 100)
    (h : ∀ n' t, Q (.int (ledI hl start rs) t) L (n' ++ n)) : W C (call (.ref 867) [.int start ts, .str H th, .ref Wd]) L n Q := by
  refine W.cf (f := f867) [some (.int start ts), some (.str H th), some (.ref Wd), none, none, none, none] ok fo867 (by show _ < 1000; omega) (by kernel_rfl) rfl fun C' ok' hf hw hd hu => ?_
  have hns : C'.fn.ns = [Str.ofString "start", Str.ofString "host", Str.ofString "words", Str.ofString "held", Str.ofString "plus", Str.ofString "mask", Str.ofString "zone"] := congrArg Fn.ns hf
  have hgn : C'.fn.gns = f867.gns := congrArg Fn.gns hf
  conv => arg 2; arg 1; whnf
  walk_at "WS"
  refine W.forI ok' hu ?_
  walk_at "WS"
  refine W.gl ok' hgn (by walk_at "MEM") (gt_ulaw_read ok') ?_
  refine W.cw ok' (fo860.keep _) ?_
  walk_at "WS"
  refine s860 ok' (by omega) hW hws hok hlen fun Rd n1 vs k hRd hvs => ?_
  refine W.iterL ok' (List.mem_append_left _ hRd) fun I o ho It => ?_
  refine ⟨I, _, _, _, _, fun i L n2 => ∃ th' a b c n3, L = [some (.int start ts), some (.str H th), some (.ref Wd), some (.int (ledI hl start (rs.take i)) th'), a, b, c] ∧ n2 = n3 ++ (n1 ++ n), [(I, o)], _, rfl, rfl, It, ⟨o, rfl, ho⟩,
    ⟨_, _, _, _, [], rfl, rfl⟩, ?_, ?_, ?_⟩
  · rintro i L2 n2 ⟨th', a, b, c, n3, rfl, rfl⟩
    exact List.mem_append_right _ (List.mem_append_left _ hRd)
  · rintro L2 n2 ⟨th', a, b, c, n3, rfl, rfl⟩
    walk_at "WS"
    have e1 : (List.toArray vs).size = rs.length := by simp [hvs.len]
    rw [e1, List.take_length]
    have := h (n3 ++ n1) th'
    rw [List.append_assoc] at this
    exact this
  · rintro C2 hid ok2 i v q L2 n2 hi ⟨rfl, hv⟩ ⟨th', a, b, c, n3, rfl, rfl⟩
    have hns : C2.fn.ns = [Str.ofString "start", Str.ofString "host", Str.ofString "words", Str.ofString "held", Str.ofString "plus", Str.ofString "mask", Str.ofString "zone"] := (congrArg Fn.ns hid.fn).trans hns
    have hgn : C2.fn.gns = f867.gns := (congrArg Fn.gns hid.fn).trans hgn
    have hr2 : C2.A.depth < 882 := by rw [hid.A]; omega
    obtain ⟨ru, hru, t, tm, tz, rfl, ht⟩ := hvs.get (i := i) (by simpa using hv)
    have rok := hok ru (List.mem_of_getElem? hru)
    obtain ⟨z1, z2, z3⟩ := zlow_ok ⟨ru.place, rok.place⟩
    have et : rs.take (i + 1) = rs.take i ++ [ru] := by rw [List.take_add_one, hru]; rfl
    have el : ledI hl start (rs.take (i + 1)) = stepI hl (ledI hl start (rs.take i)) ru := by rw [et]; simp [ledI, List.foldl_append]
    refine W.asgT ok2 (.inl (List.mem_append_right [] (List.mem_append_right _ (List.mem_append_left _ ht)))) ⟨rfl, _, rfl⟩ ?_
    refine W.aioN ?_
    walk_at "WS"
    refine W.aioN ?_
    walk_at "WS"
    refine W.aioN ?_
    walk_at "WS"
    refine W.aioE ?_
    walk_at "WS"
    refine W.gl ok2 hgn (by walk_at "MEM") (gt_user_domain_match ok2) ?_
    refine W.cw ok2 (fo63.keep _) ?_
    walk_at "WS"
    refine s63 ok2 (by omega) hH z1 hhl z2 lH z3 fun n4 => ?_
    walk_at "WS"
    cases qu : udm hl (zlow.getD ru.place "") with
    | false =>
      refine iteF rfl ?_
      walk_at "WS"
      refine ⟨th', some (.bool ru.plus), some (.int ru.mask tm), some (.str (zoneOf ru) tz), n4 ++ n3, ?_, by rw [List.append_assoc]; rfl⟩
      rw [el]; unfold stepI; rw [qu]; rfl
    | true =>
      refine iteT rfl ?_
      walk_at "WS"
      cases qp : ru.plus with
      | true =>
        refine iteT rfl ?_
        walk_at "WS"
        rename_i t9
        refine ⟨t9, some (.bool true), some (.int ru.mask tm), some (.str (zoneOf ru) tz), n4 ++ n3, ?_, by rw [List.append_assoc]; rfl⟩
        rw [el]; unfold stepI; rw [qu, qp]; rfl
      | false =>
        refine iteF rfl ?_
        walk_at "WS"
        refine W.gl ok2 hgn (by walk_at "MEM") (gt_S_IFMT ok2) ?_
        refine W.cw ok2 (fo792.keep _) ?_
        walk_at "WS"
        refine s792 ok2 (by omega) fun t1 => ?_
        walk_at "WS"
        refine W.gl ok2 hgn (by walk_at "MEM") (gt_S_IMODE ok2) ?_
        refine W.cw ok2 (fo785.keep _) ?_
        walk_at "WS"
        refine s785 ok2 (by omega) fun t2 => ?_
        walk_at "WS"
        rename_i t9
        refine ⟨t9, some (.bool false), some (.int ru.mask tm), some (.str (zoneOf ru) tz), n4 ++ n3, ?_, by rw [List.append_assoc]; rfl⟩
        rw [el]; unfold stepI; rw [qu, qp]; rfl
end
end
-- MH1
section
set_option maxHeartbeats 0
set_option autoImplicit false
section
variable {C : Cx} {L : Loc} {n : Led} {Q : Value → Loc → Led → Prop}
theorem W.bAnd {e₁ e₂ rest pos env} (h : W C (eval e₁ env) L n fun v L₁ n₁ => ∃ b, v = .bool b ∧ if b then W C (eval (.BoolOp .And (e₂ :: rest) pos) env) L₁ n₁ Q else Q (.bool false) L₁ n₁) : W C (eval (.BoolOp .And (e₁ :: e₂ :: rest) pos) env) L n Q := fun s hs =>
  BoolOp_and (lift1 h hs fun v s₁ L₁ n₁ h₁ k₁ => by
    obtain ⟨b, rfl, k⟩ := k₁
    refine wpAny_truthy_bool ?_
    cases b with
    | false => exact ⟨_, _, h₁, k⟩
    | true => exact k _ h₁)
theorem W.bOne {e pos env} (h : W C (eval e env) L n Q) : W C (eval (.BoolOp .And [e] pos) env) L n Q := fun s hs => BoolOp_one (h s hs)
noncomputable def lowS (ss : List String) : List Str := ss.map fun s => Txt.lower (Str.ofString s)
theorem low_len (ss : List String) : (lowS ss).length = ss.length := by simp [lowS]
/-- what _law_holds says -/
noncomputable def lawH (host : List String) (z : Bool × List String) : Bool :=
  if !z.1 then lowS host == lowS z.2
  else decide (((host.length : Nat) : Int) > ((z.2.length : Nat) : Int)) && ((lowS host).drop (host.length - z.2.length) == lowS z.2) && ((lowS z.2).getLastD Str.empty).cps.toList != (Str.ofString "7").cps.toList
theorem strsDrop {vs : List Value} {ss : List Str} (h : StrsAre vs ss) : ∀ k, StrsAre (vs.drop k) (ss.drop k) := by
  induction h with
  | nil => intro k; simp; exact .nil
  | cons y t h ih =>
    intro k
    cases k with
    | zero => exact .cons y t h
    | succ k => exact ih k
theorem strsLast {vs : List Value} {ss : List Str} (h : StrsAre vs ss) (hne : ss ≠ []) : ∃ t, vs.getLast? = some (.str (ss.getLastD Str.empty) t) := by
  induction h with
  | nil => exact absurd rfl hne
  | cons y t h ih =>
    cases h with
    | nil => exact ⟨t, rfl⟩
    | cons y2 t2 h2 => obtain ⟨t', e⟩ := ih (by simp); exact ⟨t', by rw [List.getLast?_cons_cons, e]; simp⟩
theorem low_snoc (ss : List String) (s : String) : lowS (ss ++ [s]) = lowS ss ++ [Txt.lower (Str.ofString s)] := by simp [lowS]
theorem lowComp {QF : Flow → Loc → Led → Prop} {ns : List Str} {y v : Str} {py pv lp p1 p2 p3 pos spos : Pos} {scope : Scope} {A : Addr} {vs : List Value} {kv : Nat} {ss : List String} (ok : Ok C) (hE : C.E = fun _ _ => False) (hns : C.fn.ns = ns) (hy : y ∈ ns) (hv : At ns L v (.ref A))
    (hA : (A, listOf vs.toArray kv) ∈ n) (hvs : StrsAre vs (ss.map Str.ofString)) (hlen : ss.length ≤ 8) (hbd : ∀ s ∈ ss, (Str.ofString s).length ≤ 100) (hline : (p2.endLine == p3.line) = true) (hln : (py.line == pos.line) = true)
    (hfree : ∀ x ∈ scope.names, x.2 ≠ .free) (hsc : scopeCheck scope [Str.ofString "label"] [] = true) (hno : (scope.names.any fun (n, k) => n == y && (k == .local || k == .cell)) = false)
    (h : ∀ C', Hid C C' → Ok C' → ∀ D m ys, StrsAre ys (lowS ss) → W C' (storeName C'.env y (.ref D)) L ((D, listOf (List.toArray ys) m) :: n) fun _ L₃ n₃ => QF .next L₃ n₃) :
    W C (exec (.Assign [.Name y py] (.ListComp (.Call (.Attribute (.Name (Str.ofString "label") p1) (Str.ofString "lower") p2) [] [] p3) [⟨.Name (Str.ofString "label") lp, .Name v pv, [], 0⟩] scope pos) spos) C.env) L n QF := by
  refine W.assComp [Str.ofString "label"] [] ok hE (hns ▸ hy) (closureFor_none hfree) ?_ hsc (by decide) hln hno
  refine W.nm ok hns hv ?_
  refine W.iterL ok hA fun I o ho It => ?_
  have hvl : vs.length = ss.length := by rw [hvs.length]; simp
  refine ⟨I, _, _, _, _, fun i ys Lc n1 => (∃ a, Lc = [a]) ∧ n1 = n ∧ StrsAre ys (lowS (ss.take i)), [(I, o)], n, rfl, rfl, by simp; unfold sizeLine; omega, It, ⟨o, rfl, ho⟩, ⟨⟨none, rfl⟩, rfl, .nil⟩, ?_, ?_, ?_⟩
  · rintro i ys Lc n1 ⟨⟨a, rfl⟩, rfl, hys⟩
    exact hA
  · rintro C' hid ok' D m ys Lc n' ⟨⟨a, rfl⟩, rfl, hys⟩
    have e1 : (List.toArray vs).size = ss.length := by simp [hvl]
    rw [e1, List.take_length] at hys
    exact h C' hid ok' D m ys hys
  · rintro C' ok' hw hA' hE' hns' hgn' henv i ys v q Lc n1 hi ⟨rfl, hv1⟩ ⟨⟨a, rfl⟩, rfl, hys⟩
    have hi' : i < ss.length := by simpa [hvl] using hi
    obtain ⟨tt, ht⟩ := strsGet hvs (i := i) (x := Str.ofString ss[i]) (by simp [hi'])
    have : v = .str (Str.ofString ss[i]) tt := by
      have h2 : vs[i]? = some v := by simpa using hv1
      rw [ht] at h2; exact (Option.some.inj h2).symm
    subst this
    refine W.asgN ?_
    walk_at "WS"
    refine W.pure ?_
    refine iteT rfl ?_
    refine W.mN (fun _ => ?_) (by with_unfolding_all rfl) hline
    walk_at "WS"
    with_reducible refine W.getLower ?_
    refine W.cbm0 ?_
    refine W.lower (by have := hbd _ (List.getElem_mem hi'); omega) fun t2 => ?_
    refine ⟨⟨_, rfl⟩, rfl, ?_⟩
    have et : ss.take (i + 1) = ss.take i ++ [ss[i]] := by rw [List.take_add_one, List.getElem?_eq_getElem hi']; rfl
    rw [et, low_snoc]
    exact strsSnoc hys
theorem s877 {Ho t lz : Addr} {hs us : List Value} {kh ku : Nat} {host : List String} {z : Bool × List String} (ok : Ok C) (hr : C.A.depth < 890) (hu9 : C.A.units < 8000) (hH : (Ho, listOf hs.toArray kh) ∈ n) (hhs : StrsAre hs (host.map Str.ofString))
    (ht : (t, tupOf [.bool z.1, .ref lz]) ∈ n) (hlz : (lz, listOf us.toArray ku) ∈ n) (hus : StrsAre us (z.2.map Str.ofString)) (hl1 : host.length ≤ 8) (hl2 : z.2.length ≤ 8) (hb1 : ∀ s ∈ host, (Str.ofString s).length ≤ 100) (hb2 : ∀ s ∈ z.2, (Str.ofString s).length ≤ 100)
    (hne : z.2 ≠ []) (h : ∀ n', Q (.bool (lawH host z)) L (n' ++ n)) : W C (call (.ref 877) [.ref Ho, .ref t]) L n Q := by
  refine W.cf (f := f877) [some (.ref Ho), some (.ref t), none, none, none, none] ok fo877 (by show _ < 1000; omega) (by kernel_rfl) rfl fun C' ok' hf hw hd hu => ?_
  have hns : C'.fn.ns = [Str.ofString "host", Str.ofString "zone", Str.ofString "dotted", Str.ofString "labels", Str.ofString "names", Str.ofString "own"] := congrArg Fn.ns hf
  have hgn : C'.fn.gns = f877.gns := congrArg Fn.gns hf
  conv => arg 2; arg 1; whnf
  walk_at "WS"
  refine W.asgT ok' (.inl ht) ⟨rfl, _, rfl⟩ ?_
  refine W.aioN ?_
  walk_at "WS"
  refine W.aioN ?_
  walk_at "WS"
  refine W.aioE ?_
  refine seqn ?_
  refine W.cons ?_
  refine lowComp ok' hu hns (by walk_at "MEM") (by walk_at "AT") hlz hus hl2 hb2 rfl rfl (by decide) (by decide +kernel) (by decide +kernel) fun C1 hid1 ok1 D1 m1 ys1 hys1 => ?_
  refine W.st ok1 ((congrArg Fn.ns hid1.fn).trans hns) (by walk_at "SET") ?_
  refine seqn ?_
  refine W.cons ?_
  refine lowComp ok' hu hns (by walk_at "MEM") (by walk_at "AT") (.tail _ hH) hhs hl1 hb1 rfl rfl (by decide) (by decide +kernel) (by decide +kernel) fun C2 hid2 ok2 D2 m2 ys2 hys2 => ?_
  refine W.st ok2 ((congrArg Fn.ns hid2.fn).trans hns) (by walk_at "SET") ?_
  walk_at "WS"
  cases hz : z.1 with
  | false =>
    refine iteT rfl ?_
    walk_at "WS"
    refine W.eqLs (by omega) (.head _) (.tail _ (.head _)) hys2 hys1 ?_
    walk_at "WS"
    have := h [(D2, listOf (List.toArray ys2) m2), (D1, listOf (List.toArray ys1) m1)]
    unfold lawH at this
    rw [hz] at this
    exact this
  | true =>
    refine iteF rfl ?_
    walk_at "WS"
    refine W.bAnd ?_
    walk_at "WS"
    have l1 : ys1.toArray.size = z.2.length := by simp [hys1.length, low_len]
    have l2 : ys2.toArray.size = host.length := by simp [hys2.length, low_len]
    walk_at "BL"
    walk_at "WS"
    refine W.lenL (.head _) (by rw [l2]; omega) fun t1 => ?_
    walk_at "WS"
    walk_at "BL"
    walk_at "WS"
    refine W.lenL (.tail _ (.head _)) (by rw [l1]; omega) fun t2 => ?_
    walk_at "WS"
    refine ⟨_, rfl, ?_⟩
    rw [l1, l2]
    by_cases hgt : ((host.length : Nat) : Int) > ((z.2.length : Nat) : Int)
    · refine iteT (by simpa using hgt) ?_
      refine W.bAnd ?_
      walk_at "WS"
      refine W.slLfrom ?_
      walk_at "WS"
      walk_at "BL"
      walk_at "WS"
      refine W.lenL (.head _) (by rw [l2]; omega) fun t3 => ?_
      walk_at "WS"
      walk_at "BL"
      walk_at "WS"
      refine W.lenL (.tail _ (.head _)) (by rw [l1]; omega) fun t4 => ?_
      walk_at "WS"
      rw [l1, l2]
      refine ⟨D2, ys2, m2, _, _, rfl, rfl, .head _, by omega, by rw [← List.size_toArray, l2]; unfold sizeLine; omega, fun D3 => ?_⟩
      walk_at "WS"
      have hdr : (((host.length : Nat) : Int) - ((z.2.length : Nat) : Int)).toNat = host.length - z.2.length := by omega
      rw [hdr]
      refine W.eqLs (by omega) (.head _) (.tail _ (.tail _ (.head _))) (strsDrop hys2 _) hys1 ?_
      refine ⟨_, rfl, ?_⟩
      cases qe : ((lowS host).drop (host.length - z.2.length) == lowS z.2) with
      | false =>
        refine iteF rfl ?_
        walk_at "WS"
        have := h [(D3, listOf (List.drop (host.length - z.2.length) ys2).toArray 0), (D2, listOf (List.toArray ys2) m2), (D1, listOf (List.toArray ys1) m1)]
        have e : lawH host z = false := by unfold lawH; rw [hz, qe]; simp
        rw [e] at this
        exact this
      | true =>
        refine iteT rfl ?_
        refine W.bOne ?_
        walk_at "WS"
        refine W.subs ?_
        walk_at "WS"
        obtain ⟨tl, hlast⟩ := strsLast hys1 (by simpa [lowS] using hne)
        refine W.itemLast (.tail _ (.tail _ (.head _))) hlast ?_
        walk_at "WS"
        have := h [(D3, listOf (List.drop (host.length - z.2.length) ys2).toArray 0), (D2, listOf (List.toArray ys2) m2), (D1, listOf (List.toArray ys1) m1)]
        have e : lawH host z = (((lowS z.2).getLastD Str.empty).cps.toList != (Str.ofString "7").cps.toList) := by
          unfold lawH
          rw [hz, qe, decide_eq_true hgt]
          rfl
        rw [e] at this
        exact this
    · refine iteF (by simpa using hgt) ?_
      walk_at "WS"
      have := h [(D2, listOf (List.toArray ys2) m2), (D1, listOf (List.toArray ys1) m1)]
      have e : lawH host z = false := by unfold lawH; rw [hz, decide_eq_false hgt]; rfl
      rw [e] at this
      exact this
end
end
-- MG1
section
set_option maxHeartbeats 0
set_option autoImplicit false
theorem fo882 : FnOkC f882 (bodyOf (stAt 64)) := FnOkC.of (by kernel_rfl) (by kernel_rfl) (fun _ => by kernel_rfl) (fun _ => by kernel_rfl)
theorem fo872 : FnOkC f872 (bodyOf (stAt 62)) := FnOkC.of (by kernel_rfl) (by kernel_rfl) (fun _ => by kernel_rfl) (fun _ => by kernel_rfl)
theorem cells882 (a : Nat) : cellsFrom a f882.fd.scope.names [] = [(Str.ofString "bit", a + 2), (Str.ofString "zones", a + 1), (Str.ofString "host", a)] := by kernel_rfl
theorem cells872 (a : Nat) : cellsFrom a f872.fd.scope.names [] = [(Str.ofString "zone", a + 1), (Str.ofString "mask", a)] := by kernel_rfl
/-- a later rule j covers rule r -/
noncomputable def covR (r j : Rule) : Bool := Builtin.bitAnd (j.mask : Int) (r.mask : Int) == (r.mask : Int) && udm (zlow.getD r.place "") (zlow.getD j.place "")
noncomputable def shortR : List Rule → List Rule
  | [] => []
  | r :: rs => if rs.any (covR r) then shortR rs else r :: shortR rs
/-- the rules that are kept of the first i -/
noncomputable def keptR (rs : List Rule) : Nat → List Rule
  | 0 => []
  | i + 1 => keptR rs i ++ (match rs[i]? with | some r => if (rs.drop (i + 1)).any (covR r) then [] else [r] | none => [])
theorem kept_len (rs : List Rule) : ∀ i, (keptR rs i).length ≤ i
  | 0 => Nat.le_refl _
  | i + 1 => by
    have ih := kept_len rs i
    unfold keptR
    rw [List.length_append]
    split
    · split <;> simp <;> omega
    · simp; omega
theorem kept_cons (r : Rule) (rs : List Rule) : ∀ i, keptR (r :: rs) (i + 1) = (if rs.any (covR r) then [] else [r]) ++ keptR rs i
  | 0 => by simp [keptR]
  | i + 1 => by
    rw [keptR, kept_cons r rs i, List.append_assoc]
    rfl
theorem kept_short : ∀ rs : List Rule, keptR rs rs.length = shortR rs
  | [] => rfl
  | r :: rs => by
    rw [List.length_cons, kept_cons, kept_short rs]
    show (if rs.any (covR r) then [] else [r]) ++ shortR rs = if rs.any (covR r) then shortR rs else r :: shortR rs
    split <;> rfl
section
variable {C : Cx} {L : Loc} {n : Led} {Q : Value → Loc → Led → Prop}
theorem perm_up {a b c : Addr × Obj} (p q r : Led) : (p ++ (a :: b :: c :: (q ++ r))).Perm (a :: b :: c :: ((p ++ q) ++ r)) := by
  rw [List.append_assoc]
  have h1 : (p ++ (a :: b :: c :: (q ++ r))).Perm (a :: (p ++ (b :: c :: (q ++ r)))) := List.perm_middle
  have h2 : (p ++ (b :: c :: (q ++ r))).Perm (b :: (p ++ (c :: (q ++ r)))) := List.perm_middle
  have h3 : (p ++ (c :: (q ++ r))).Perm (c :: (p ++ (q ++ r))) := List.perm_middle
  exact h1.trans ((h2.trans (h3.cons _)).cons _)
theorem W.itemT {value slice : Expr} {t : Addr} {vs : List Value} {k : Nat} {u : Tok} {x : Value} (hl : (t, tupOf vs) ∈ n) (hk : k < 100) (hx : vs[k]? = some x) (h : Q x L n)
    (hs : subscripted slice false (.ref t) (.int k u) = operate [.ref t, .int k u] (getItem (.ref t) (.int k u)) := by with_unfolding_all rfl) (hg : ∀ r, letTemporaryGo value (.ref t) r = Pure.pure () := by intro _; with_unfolding_all rfl) : W C (subscriptTail value slice (.ref t) (.int k u)) L n Q := fun s hs' => by
  have ho := hs'.mem hl
  have hlt : k < vs.length := (List.getElem?_eq_some_iff.mp hx).1
  refine subscriptTail_builtin (T := "tuple") ⟨_, ho, rfl⟩ F.slot_tuple_getitem.lookup (P.getItem_tuple (items := vs.toArray) (n := 0) (k := k) ho (by omega) (by omega) ?_ (by simpa using hx) ⟨_, _, hs', h⟩) hs hg
  unfold seqIndex?
  simp only [show ¬ ((k : Int) < 0) by omega, if_false]
  rw [if_pos (by simp; omega)]
  simp
theorem s872 {Wd : Addr} {ws : List Value} {kk : Nat} {rs : List Rule} (ok : Ok C) (hr : C.A.depth < 880) (hu9 : C.A.units < 8000) (hW : (Wd, listOf ws.toArray kk) ∈ n) (hws : StrsAre ws (wordsS rs)) (hok : ∀ r ∈ rs, RuleOk r) (hlen : rs.length ≤ 8)
    (h : ∀ Sd n' vs k, (Sd, listOf (List.toArray vs) k) ∈ n' → StrsAre vs (wordsS (shortR rs)) → Q (.ref Sd) L (n' ++ n)) : W C (call (.ref 872) [.ref Wd]) L n Q := by
  refine W.callC (f := f872) (binds := [(Str.ofString "words", .ref Wd)]) [some (.ref Wd), none, none, none, none, none] ok fo872 (by show _ < 1000; omega) (by kernel_rfl) (fun n x hx => ?_) ?_ fun C' ok' hf hw hd hu henv cells hcells => ?_
  · cases hx with
    | head => exact .inl (by kernel_rfl)
    | tail _ h => cases h
  · funext x
    show (if x = Str.ofString "words" then some (Value.ref Wd) else look2 _ (startL [Str.ofString "rules", Str.ofString "short", Str.ofString "k", Str.ofString "plus", Str.ofString "over"] []) x) = _
    rw [look2_none]
    have e : List.lookup (Str.ofString "words") f872.fd.scope.names = some NameKind.local := by kernel_rfl
    show _ = (if List.lookup (Str.ofString "words") f872.fd.scope.names = some NameKind.local then (fun y => if y = Str.ofString "words" then some (Value.ref Wd) else none) else (fun _ => none)) x
    rw [if_pos e]
  have hns : C'.fn.ns = [Str.ofString "words", Str.ofString "rules", Str.ofString "short", Str.ofString "k", Str.ofString "plus", Str.ofString "over"] := congrArg Fn.ns hf
  have hgn : C'.fn.gns = f872.gns := congrArg Fn.gns hf
  have hcs : C'.env.cells = [(Str.ofString "zone", C'.loc + 1 + 1), (Str.ofString "mask", C'.loc + 1)] := by rw [henv]; exact cells872 _
  rw [hcs] at hcells
  obtain ⟨oz, om, rfl, hoz, hom⟩ := hcells.two
  conv => arg 2; arg 1; whnf
  walk_at "WS"
  refine W.gl ok' hgn (by walk_at "MEM") (gt_ulaw_read ok') ?_
  refine W.cw ok' (fo860.keep _) ?_
  walk_at "WS"
  refine s860 ok' (by omega) (List.mem_append_right _ hW) hws hok hlen fun Rd n1 vs k1 hRd hvs => ?_
  walk_at "WS"
  rename_i Sd
  have hvl : vs.length = rs.length := hvs.len
  refine W.forI ok' hu ?_
  walk_at "WS"
  walk_at "BL"
  walk_at "WS"
  walk_at "BL"
  walk_at "WS"
  refine W.lenL (.tail _ (List.mem_append_left _ hRd)) (by simp; omega) fun t1 => ?_
  walk_at "WS"
  refine W.range1 fun rg ta tb => ?_
  have hsz : ((vs.toArray.size : Nat) : Int) = ((rs.length : Nat) : Int) := by simp [hvl]
  rw [hsz]
  refine W.iterR ok' (k := rs.length) (.head _) (by
    have : ∀ k : _root_.Fin 9, Builtin.Range.small 0 (((k : Nat) : Nat) : Int) 1 = true := by decide +kernel
    exact this ⟨rs.length, by omega⟩) (by rw [rangeSize_one]; split <;> omega) fun I It => ?_
  refine ⟨I, _, _, _, _, fun i L n2 => ∃ a b c ys ky n3 oz om, L = [some (.ref Wd), some (.ref Rd), some (.ref Sd), a, b, c] ∧ n2.Perm ((C'.loc + 1 + 1, oz) :: (C'.loc + 1, om) :: (Sd, listOf (List.toArray ys) ky) :: (n3 ++ (n1 ++ n))) ∧
      (∃ v, oz.data = .cell v) ∧ (∃ v, om.data = .cell v) ∧ StrsAre ys (wordsS (keptR rs i)), _, _, rfl, rfl, It, ⟨_, rfl, rfl⟩, ?_, fun _ _ _ _ => trivial, ?_, ?_⟩
  · refine ⟨_, _, _, [], 0, [(rg, rangeO 0 ((rs.length : Nat) : Int) 1 ta t1 tb)], oz, om, rfl, ?_, ⟨_, hoz⟩, ⟨_, hom⟩, .nil⟩
    have h1 := perm_up (a := (C'.loc + 1 + 1, oz)) (b := (C'.loc + 1, om)) (c := (Sd, listOf #[] 0)) ((rg, rangeO 0 ((rs.length : Nat) : Int) 1 ta t1 tb) :: n1) [] n
    have h2 : ((rg, rangeO 0 ((rs.length : Nat) : Int) 1 ta t1 tb) :: (Sd, listOf #[] 0) :: (n1 ++ ([(C'.loc + 1 + 1, oz), (C'.loc + 1, om)] ++ n))).Perm (((rg, rangeO 0 ((rs.length : Nat) : Int) 1 ta t1 tb) :: n1) ++ ((C'.loc + 1 + 1, oz) :: (C'.loc + 1, om) :: (Sd, listOf #[] 0) :: ([] ++ n))) := by
      simp only [List.cons_append, List.nil_append]
      refine List.Perm.cons _ ?_
      have h4 := (List.perm_middle (a := (Sd, listOf #[] 0)) (l₁ := n1 ++ [(C'.loc + 1 + 1, oz), (C'.loc + 1, om)]) (l₂ := n)).symm
      simp only [List.append_assoc, List.cons_append, List.nil_append] at h4
      exact h4
    have h3 := h2.trans h1
    simp only [List.cons_append, List.nil_append, List.append_nil] at h3 ⊢
    exact h3
  · rintro L2 n2 ⟨a, b, c, ys, ky, n3, oz, om, rfl, hp, ⟨vz, hoz⟩, ⟨vm, hom⟩, hys⟩
    refine W.perm hp.symm ?_
    walk_at "WS"
    rw [kept_short] at hys
    have := h Sd ((C'.loc + 1 + 1, oz) :: (C'.loc + 1, om) :: (Sd, listOf (List.toArray ys) ky) :: (n3 ++ n1)) ys ky (.tail _ (.tail _ (.head _))) hys
    simp only [List.cons_append, List.append_assoc] at this
    exact this
  · rintro C2 hid ok2 i v q L2 n2 hi ⟨rfl, tv, rfl⟩ ⟨a, b, c, ys, ky, n3, oz, om, rfl, hp, ⟨vz, hoz⟩, ⟨vm, hom⟩, hys⟩
    have hns : C2.fn.ns = [Str.ofString "words", Str.ofString "rules", Str.ofString "short", Str.ofString "k", Str.ofString "plus", Str.ofString "over"] := (congrArg Fn.ns hid.fn).trans hns
    have hgn : C2.fn.gns = f872.gns := (congrArg Fn.gns hid.fn).trans hgn
    have hr2 : C2.A.depth < 882 := by rw [hid.A]; omega
    have hE2 : C2.E = fun _ _ => False := hid.E.trans hu
    have henv2 : C2.env = callEnvC f872.fd C'.loc 872 := hid.env.trans henv
    have km : C2.env.kindOf (Str.ofString "mask") = some .cell := by rw [henv2]; kernel_rfl
    have kz : C2.env.kindOf (Str.ofString "zone") = some .cell := by rw [henv2]; kernel_rfl
    have hcs2 : C2.env.cells = [(Str.ofString "zone", C'.loc + 1 + 1), (Str.ofString "mask", C'.loc + 1)] := by rw [hid.env]; exact hcs
    have cm : C2.env.cells.lookup (Str.ofString "mask") = some (C'.loc + 1) := by rw [hcs2]; kernel_rfl
    have cz : C2.env.cells.lookup (Str.ofString "zone") = some (C'.loc + 1 + 1) := by rw [hcs2]; kernel_rfl
    refine W.perm hp.symm ?_
    obtain ⟨ru, hru⟩ : ∃ ru, rs[i]? = some ru := ⟨rs[i], by simp [hi]⟩
    have rok := hok ru (List.mem_of_getElem? hru)
    obtain ⟨v', hv', t, tm, tz, rfl, ht⟩ := hvs.get' hru
    have hin1 : ∀ p ∈ n1, p ∈ ((C'.loc + 1 + 1, oz) :: (C'.loc + 1, om) :: (Sd, listOf (List.toArray ys) ky) :: (n3 ++ (n1 ++ n))) := fun p hp => .tail _ (.tail _ (.tail _ (List.mem_append_right _ (List.mem_append_left _ hp))))
    refine W.asgN ?_
    walk_at "WS"
    refine W.subs ?_
    walk_at "WS"
    refine W.item (hin1 _ hRd) (by omega) (by omega) (by rw [show ((0 : Int) + (i : Int) * 1).toNat = i by omega]; exact hv') ?_
    refine W.asgT ok2 (.inl (hin1 _ ht)) ⟨rfl, _, rfl⟩ ?_
    refine W.aioN ?_
    walk_at "WS"
    refine W.aioN ?_
    refine W.stc (N := fun o => (C'.loc + 1 + 1, oz) :: (C'.loc + 1, o) :: (Sd, listOf (List.toArray ys) ky) :: (n3 ++ (n1 ++ n))) ok2 km cm (fun _ => .there .here) hom fun om2 hom2 => ?_
    refine W.aioN ?_
    refine W.stc (N := fun o => (C'.loc + 1 + 1, o) :: (C'.loc + 1, om2) :: (Sd, listOf (List.toArray ys) ky) :: (n3 ++ (n1 ++ n))) ok2 kz cz (fun _ => .here) hoz fun oz2 hoz2 => ?_
    refine W.aioE ?_
    refine seqn ?_
    refine W.cons ?_
    refine W.assComp (cl := [(Str.ofString "zone", C'.loc + 1 + 1), (Str.ofString "mask", C'.loc + 1)]) [Str.ofString "one"] [Str.ofString "user_domain_match"] ok2 hE2 (hns ▸ (by walk_at "MEM")) (by rw [henv2]; kernel_rfl) ?_ (by decide +kernel) (by decide) rfl (by decide +kernel)
    refine W.slLfrom ?_
    walk_at "WS"
    have hbase : ∀ p ∈ n1, p ∈ ((C'.loc + 1 + 1, oz2) :: (C'.loc + 1, om2) :: (Sd, listOf (List.toArray ys) ky) :: (n3 ++ (n1 ++ n))) := fun p hp => .tail _ (.tail _ (.tail _ (List.mem_append_right _ (List.mem_append_left _ hp))))
    refine ⟨Rd, vs, k1, _, _, rfl, rfl, hbase _ hRd, by omega, by rw [hvl]; unfold sizeLine; omega, fun Sl => ?_⟩
    rw [show ((0 : Int) + (i : Int) * 1 + 1).toNat = i + 1 by omega]
    refine W.iterL ok2 (.head _) fun I2 o2 ho2 It2 => ?_
    have hdl : (vs.drop (i + 1)).length = (rs.drop (i + 1)).length := by simp [hvl]
    refine ⟨I2, _, _, _, _, fun j zs Lc n4 => (∃ a, Lc = [a]) ∧ (∃ n5, n4 = n5 ++ ((Sl, listOf (List.drop (i + 1) vs).toArray 0) :: (C'.loc + 1 + 1, oz2) :: (C'.loc + 1, om2) :: (Sd, listOf (List.toArray ys) ky) :: (n3 ++ (n1 ++ n)))) ∧ zs.isEmpty = !(((rs.drop (i + 1)).take j).any (covR ru)), [(I2, o2)], _, rfl, rfl, ?_, It2, ⟨o2, rfl, ho2⟩, ⟨⟨none, rfl⟩, ⟨[], rfl⟩, rfl⟩, ?_, ?_, ?_⟩
    · rw [List.size_toArray, hdl, List.length_drop]; unfold sizeLine; omega
    · rintro j zs Lc n4 ⟨⟨a2, rfl⟩, ⟨n5, rfl⟩, hz⟩
      exact List.mem_append_right _ (.head _)
    · rintro C3 hid3 ok3 D m zs Lc n4 ⟨⟨a2, rfl⟩, ⟨n5, rfl⟩, hz⟩
      have hns3 : C3.fn.ns = [Str.ofString "words", Str.ofString "rules", Str.ofString "short", Str.ofString "k", Str.ofString "plus", Str.ofString "over"] := (congrArg Fn.ns hid3.fn).trans hns
      refine W.st ok3 hns3 (by walk_at "SET") ?_
      walk_at "WS"
      rename_i Ne
      refine W.eqNil (by rw [hid.A]; omega) (.tail _ (.head _)) (.head _) ?_
      walk_at "WS"
      have ezl : (rs.drop (i + 1)).take ((List.drop (i + 1) vs).toArray.size) = rs.drop (i + 1) := by
        rw [List.size_toArray, hdl, List.take_length]
      rw [ezl] at hz
      have ek : keptR rs (i + 1) = keptR rs i ++ (if (rs.drop (i + 1)).any (covR ru) then [] else [ru]) := by
        show keptR rs i ++ (match rs[i]? with | some r => if (rs.drop (i + 1)).any (covR r) then [] else [r] | none => []) = _
        rw [hru]
      rw [hz]
      have hpm : ((Ne, listOf #[] 0) :: (D, listOf (List.toArray zs) m) :: (n5 ++ ((Sl, listOf (List.drop (i + 1) vs).toArray 0) :: (C'.loc + 1 + 1, oz2) :: (C'.loc + 1, om2) :: (Sd, listOf (List.toArray ys) ky) :: (n3 ++ (n1 ++ n))))).Perm
          ((C'.loc + 1 + 1, oz2) :: (C'.loc + 1, om2) :: (Sd, listOf (List.toArray ys) ky) :: ((((Ne, listOf #[] 0) :: (D, listOf (List.toArray zs) m) :: (n5 ++ [(Sl, listOf (List.drop (i + 1) vs).toArray 0)])) ++ n3) ++ (n1 ++ n))) := by
        have := perm_up (a := (C'.loc + 1 + 1, oz2)) (b := (C'.loc + 1, om2)) (c := (Sd, listOf (List.toArray ys) ky)) ((Ne, listOf #[] 0) :: (D, listOf (List.toArray zs) m) :: (n5 ++ [(Sl, listOf (List.drop (i + 1) vs).toArray 0)])) n3 (n1 ++ n)
        simp only [List.cons_append, List.append_assoc, List.nil_append] at this ⊢
        exact this
      cases qa : (rs.drop (i + 1)).any (covR ru) with
      | true =>
        refine iteF rfl ?_
        walk_at "WS"
        refine ⟨_, _, _, ys, ky, _, oz2, om2, rfl, hpm, ⟨_, hoz2⟩, ⟨_, hom2⟩, ?_⟩
        rw [ek, qa]
        simpa using hys
      | false =>
        refine iteT rfl ?_
        refine W.perm hpm.symm ?_
        generalize ((Ne, listOf #[] 0) :: (D, listOf (List.toArray zs) m) :: (n5 ++ [(Sl, listOf (List.drop (i + 1) vs).toArray 0)])) ++ n3 = n7
        have hly : ys.length ≤ 16 := by
          rw [hys.length, words_len]
          have := kept_len rs i
          omega
        obtain ⟨hg1, hg2⟩ := words_get hru
        obtain ⟨tw, hw1⟩ := strsGet hws hg1
        obtain ⟨tz', hw2⟩ := strsGet hws hg2
        have hWn : ∀ o, (Wd, listOf ws.toArray kk) ∈ ((C'.loc + 1 + 1, oz2) :: (C'.loc + 1, om2) :: (Sd, o) :: (n7 ++ (n1 ++ n))) := fun _ => .tail _ (.tail _ (.tail _ (List.mem_append_right _ (List.mem_append_right _ hW))))
        walk_at "WS"
        refine W.getAppend (.tail _ (.tail _ (.head _))) ?_
        refine W.cbm ?_
        walk_at "WS"
        refine W.subs ?_
        walk_at "WS"
        refine W.mul (IntMulOk.of_left (by decide +kernel)) fun t5 => ?_
        refine W.item (hWn _) (by omega) (by omega) (by rw [show ((2 : Int) * (0 + (i : Int) * 1)).toNat = 2 * i by omega]; exact hw1) ?_
        walk_at "WS"
        refine W.append (N := fun o => (C'.loc + 1 + 1, oz2) :: (C'.loc + 1, om2) :: (Sd, o) :: (n7 ++ (n1 ++ n))) (fun _ => .there (.there .here)) (by simp; unfold sizeLine; omega) fun k5 => ?_
        walk_at "WS"
        refine W.getAppend (.tail _ (.tail _ (.head _))) ?_
        refine W.cbm ?_
        walk_at "WS"
        refine W.subs ?_
        walk_at "WS"
        refine W.mul (IntMulOk.of_left (by decide +kernel)) fun t6 => ?_
        walk_at "WS"
        refine W.item (hWn _) (by omega) (by omega) (by rw [show ((2 : Int) * (0 + (i : Int) * 1) + 1).toNat = 2 * i + 1 by omega]; exact hw2) ?_
        walk_at "WS"
        refine W.append (N := fun o => (C'.loc + 1 + 1, oz2) :: (C'.loc + 1, om2) :: (Sd, o) :: (n7 ++ (n1 ++ n))) (fun _ => .there (.there .here)) (by simp; unfold sizeLine; omega) fun k6 => ?_
        walk_at "WS"
        refine ⟨_, _, _, ys ++ [.str (signS ru.plus ++ figS ru.mask) tw] ++ [.str (zoneOf ru) tz'], k6, n7, oz2, om2, rfl, ?_, ⟨_, hoz2⟩, ⟨_, hom2⟩, ?_⟩
        · rw [← List.push_toArray, ← List.push_toArray]
        · rw [ek, qa]
          have := words_snoc (keptR rs i) ru
          show StrsAre _ (wordsS (keptR rs i ++ [ru]))
          rw [this]
          exact strsSnoc (strsSnoc hys)
    · rintro C3 ok3 hw3 hA3 hE3 hns3 hgn3 henv3 j zs v q Lc n4 hj ⟨rfl, hv⟩ ⟨⟨a2, rfl⟩, ⟨n5, rfl⟩, hz⟩
      refine W.asgN ?_
      walk_at "WS"
      have hv' : vs[i + 1 + j]? = some v := by simpa using hv
      obtain ⟨rj, hrj, tj, tmj, tzj, rfl, htj⟩ := hvs.get hv'
      have rokj := hok rj (List.mem_of_getElem? hrj)
      have km3 : C3.env.kindOf (Str.ofString "mask") = some .cell := by rw [henv3, henv2]; kernel_rfl
      have kz3 : C3.env.kindOf (Str.ofString "zone") = some .cell := by rw [henv3, henv2]; kernel_rfl
      have cm3 : C3.env.cells.lookup (Str.ofString "mask") = some (C'.loc + 1) := by rw [henv3]; kernel_rfl
      have cz3 : C3.env.cells.lookup (Str.ofString "zone") = some (C'.loc + 1 + 1) := by rw [henv3]; kernel_rfl
      have hb3 : ∀ p ∈ ((C'.loc + 1 + 1, oz2) :: (C'.loc + 1, om2) :: (Sd, listOf (List.toArray ys) ky) :: (n3 ++ (n1 ++ n))), p ∈ n5 ++ ((Sl, listOf (List.drop (i + 1) vs).toArray 0) :: (C'.loc + 1 + 1, oz2) :: (C'.loc + 1, om2) :: (Sd, listOf (List.toArray ys) ky) :: (n3 ++ (n1 ++ n))) := fun p hp => List.mem_append_right _ (.tail _ hp)
      obtain ⟨z1, z2, z3⟩ := zlow_ok ⟨ru.place, rok.place⟩
      obtain ⟨w1, w2, w3⟩ := zlow_ok ⟨rj.place, rokj.place⟩
      have et : (rs.drop (i + 1)).take (j + 1) = (rs.drop (i + 1)).take j ++ [rj] := by rw [List.take_add_one, List.getElem?_drop, hrj]; rfl
      have hr3 : C3.A.depth < 882 := by rw [hA3]; exact hr2
      simp only [compT]
      walk_at "WS"
      refine W.subs ?_
      walk_at "WS"
      refine W.itemT (k := 1) (hb3 _ (hbase _ htj)) (by decide) rfl ?_
      refine W.ldc ok3 km3 cm3 (hb3 _ (.tail _ (.head _))) hom2 ?_
      walk_at "WS"
      refine W.ldc ok3 km3 cm3 (hb3 _ (.tail _ (.head _))) hom2 ?_
      walk_at "WS"
      cases qm : (Builtin.bitAnd (rj.mask : Int) (ru.mask : Int) == (ru.mask : Int)) with
      | false =>
        refine iteF rfl ?_
        refine iteF rfl ?_
        refine ⟨⟨_, rfl⟩, ⟨n5, rfl⟩, ?_⟩
        have hc : covR ru rj = false := by unfold covR; rw [qm]; rfl
        rw [et, List.any_append, hz]
        simp [hc]
      | true =>
        refine iteT rfl ?_
        walk_at "WS"
        refine W.gl ok3 hgn3 (by walk_at "MEM") (gt_user_domain_match ok3) ?_
        refine W.cw ok3 (fo63.keep _) ?_
        walk_at "WS"
        refine W.ldc ok3 kz3 cz3 (hb3 _ (.head _)) hoz2 ?_
        walk_at "WS"
        refine W.subs ?_
        walk_at "WS"
        refine W.itemT (k := 2) (hb3 _ (hbase _ htj)) (by decide) rfl ?_
        walk_at "WS"
        refine s63 ok3 (by omega) z1 w1 z2 w2 z3 w3 fun n6 => ?_
        walk_at "WS"
        cases qu : udm (zlow.getD ru.place "") (zlow.getD rj.place "") with
        | false =>
          refine iteF rfl ?_
          refine iteF rfl ?_
          refine ⟨⟨_, rfl⟩, ⟨n6 ++ n5, by rw [List.append_assoc]; rfl⟩, ?_⟩
          have hc : covR ru rj = false := by unfold covR; rw [qm, qu]; rfl
          rw [et, List.any_append, hz]
          simp [hc]
        | true =>
          refine iteT rfl ?_
          walk_at "WS"
          refine iteT rfl ?_
          walk_at "WS"
          refine ⟨⟨_, rfl⟩, ⟨n6 ++ n5, by rw [List.append_assoc]; rfl⟩, ?_⟩
          have hc : covR ru rj = true := by unfold covR; rw [qm, qu]; rfl
          rw [et, List.any_append]
          simp [hc]
end
end
-- MGT
section
set_option maxHeartbeats 0
set_option autoImplicit false
noncomputable def kindS (start : Int) : Str := ⟨#[((Str.ofString "?pc?d?b?-?l?s???").cps.toList.getD (start.fdiv 4096).toNat 0)]⟩
noncomputable def xS (g : Nat → Bool) (p : Nat) : Str := if !g (11 - p) then (if g (6 - 3 * p) then Str.ofString "x" else Str.ofString "-") else if p = 2 then (if g (6 - 3 * p) then Str.ofString "t" else Str.ofString "T") else (if g (6 - 3 * p) then Str.ofString "s" else Str.ofString "S")
noncomputable def pS (g : Nat → Bool) (p : Nat) (acc : Str) : Str := ((acc ++ (if g (8 - 3 * p) then Str.ofString "r" else Str.ofString "-")) ++ (if g (7 - 3 * p) then Str.ofString "w" else Str.ofString "-")) ++ xS g p
noncomputable def accS (start : Int) (g : Nat → Bool) : Nat → Str
  | 0 => kindS start
  | i + 1 => pS g i (accS start g i)
theorem one_len (b : Bool) (x y : String) (hx : (Str.ofString x).length = 1) (hy : (Str.ofString y).length = 1) : (if b then Str.ofString x else Str.ofString y).length = 1 := by cases b <;> assumption
theorem xS_len (g : Nat → Bool) (p : Nat) : (xS g p).length = 1 := by
  unfold xS
  split
  · exact one_len _ _ _ (by decide +kernel) (by decide +kernel)
  · split
    · exact one_len _ _ _ (by decide +kernel) (by decide +kernel)
    · exact one_len _ _ _ (by decide +kernel) (by decide +kernel)
theorem acc_len (start : Int) (g : Nat → Bool) : ∀ i, (accS start g i).length = 3 * i + 1
  | 0 => rfl
  | i + 1 => by
    show (pS g i (accS start g i)).length = _
    unfold pS
    rw [Str.length_append, Str.length_append, Str.length_append, acc_len start g i, xS_len, one_len _ _ _ (by decide +kernel) (by decide +kernel), one_len _ _ _ (by decide +kernel) (by decide +kernel)]
    omega
section
variable {C : Cx} {L : Loc} {n : Led} {Q : Value → Loc → Led → Prop} {QF : Flow → Loc → Led → Prop}
theorem gv_item {g : Nat → Bool} {i : Nat} (h : i < 12) : ((List.range 12).map fun b => Value.bool (g b))[i]? = some (.bool (g i)) := by
  simp [List.getElem?_map, h]
theorem W.giv {Gv : Addr} {k : Nat} {g : Nat → Bool} {value slice : Expr} {i : Int} {u : Tok} {j : Nat} (hG : (Gv, listOf ((List.range 12).map fun b => Value.bool (g b)).toArray k) ∈ n) (hi : i = (j : Int)) (hj : j < 12) (h : Q (.bool (g j)) L n)
    (hs : subscripted slice false (.ref Gv) (.int i u) = operate [.ref Gv, .int i u] (getItem (.ref Gv) (.int i u)) := by with_unfolding_all rfl) (hg : ∀ r, letTemporaryGo value (.ref Gv) r = Pure.pure () := by intro _; with_unfolding_all rfl) : W C (subscriptTail value slice (.ref Gv) (.int i u)) L n Q :=
  W.item hG (by omega) (by omega) (by rw [show i.toNat = j by omega]; exact gv_item hj) h hs hg
theorem listTail {Gv R D : Addr} {k : Nat} {g : Nat → Bool} {start : Int} {ts : Tok} {a : Option Value} (ok : Ok C) (hE : C.E = fun _ _ => False) (hf : C.fn = f882) (hG : (Gv, listOf ((List.range 12).map fun b => Value.bool (g b)).toArray k) ∈ n) (h0 : 0 ≤ start) (h1 : start < 65536)
    (h : ∀ n' L' t, QF (.ret (.str (accS start g 3) t)) L' (n' ++ n)) :
    W C (execs ((bodyOf (stAt 64)).drop 4) C.env) [some (.int start ts), some (.ref R), some (.ref D), some (.ref Gv), a, none, none, none] n QF := by
  have hns : C.fn.ns = [Str.ofString "start", Str.ofString "rules", Str.ofString "fits", Str.ofString "given", Str.ofString "said", Str.ofString "signs", Str.ofString "part", Str.ofString "run"] := congrArg Fn.ns hf
  have hgn : C.fn.gns = f882.gns := congrArg Fn.gns hf
  have hfd : 0 ≤ start.fdiv 4096 ∧ start.fdiv 4096 < 16 := by rw [Int.fdiv_eq_ediv_of_nonneg _ (by decide)]; omega
  conv => arg 2; arg 1; whnf
  walk_at "WS"
  refine W.subs ?_
  walk_at "WS"
  refine W.fdiv (by decide) (PyProof.noPylong_small (by decide)) fun t1 => ?_
  refine W.strItem (c := ((Str.ofString "?pc?d?b?-?l?s???").cps.toList.getD (start.fdiv 4096).toNat 0)) hfd.1 (by
    have : ∀ j : _root_.Fin 16, (Str.ofString "?pc?d?b?-?l?s???").cps.toList[(j : Nat)]? = some ((Str.ofString "?pc?d?b?-?l?s???").cps.toList.getD (j : Nat) 0) := by decide +kernel
    exact this ⟨(start.fdiv 4096).toNat, by omega⟩) (by decide +kernel) fun t2 => ?_
  walk_at "WS"
  refine W.forI ok hE ?_
  walk_at "WS"
  walk_at "BL"
  walk_at "WS"
  rename_i t3
  refine W.range1 fun rg ta tb => ?_
  refine W.iterR ok (k := 3) (.head _) (by decide +kernel) (by decide +kernel) fun I It => ?_
  refine ⟨I, _, _, _, _, fun i L n2 => ∃ p r t n', L = [some (.int start ts), some (.ref R), some (.ref D), some (.ref Gv), a, some (.str (accS start g i) t), p, r] ∧ n2 = n' ++ n, _, _, rfl, rfl, It, ⟨_, rfl, rfl⟩, ⟨_, _, _, [(rg, _)], rfl, rfl⟩, fun _ _ _ _ => trivial, ?_, ?_⟩
  · rintro L2 n2 ⟨p, r, t, n', rfl, rfl⟩
    walk_at "WS"
    exact h _ _ _
  · rintro C2 hid ok2 i v q L2 n2 hi ⟨rfl, tv, rfl⟩ ⟨p, r, t, n', rfl, rfl⟩
    have hns2 : C2.fn.ns = [Str.ofString "start", Str.ofString "rules", Str.ofString "fits", Str.ofString "given", Str.ofString "said", Str.ofString "signs", Str.ofString "part", Str.ofString "run"] := (congrArg Fn.ns hid.fn).trans hns
    have hG2 : (Gv, listOf ((List.range 12).map fun b => Value.bool (g b)).toArray k) ∈ [] ++ (n' ++ n) := List.mem_append_right n' hG
    refine W.asgN ?_
    walk_at "WS"
    refine W.subs ?_
    walk_at "WS"
    refine W.mul (IntMulOk.of_left (by decide +kernel)) fun _ => ?_
    walk_at "WS"
    refine W.giv (j := 6 - 3 * i) hG2 (by omega) (by omega) ?_
    walk_at "WS"
    refine W.subs ?_
    walk_at "WS"
    refine W.mul (IntMulOk.of_left (by decide +kernel)) fun _ => ?_
    walk_at "WS"
    refine W.giv (j := 8 - 3 * i) hG2 (by omega) (by omega) ?_
    walk_at "WS"
    refine W.ifStr fun _ => ?_
    refine W.adds (by rw [acc_len, one_len _ _ _ (by decide +kernel) (by decide +kernel)]; unfold sizeLine; omega) fun _ => ?_
    walk_at "WS"
    refine W.subs ?_
    walk_at "WS"
    refine W.mul (IntMulOk.of_left (by decide +kernel)) fun _ => ?_
    walk_at "WS"
    refine W.giv (j := 7 - 3 * i) hG2 (by omega) (by omega) ?_
    walk_at "WS"
    refine W.ifStr fun _ => ?_
    refine W.adds (by rw [Str.length_append, acc_len, one_len _ _ _ (by decide +kernel) (by decide +kernel), one_len _ _ _ (by decide +kernel) (by decide +kernel)]; unfold sizeLine; omega) fun _ => ?_
    walk_at "WS"
    refine W.subs ?_
    walk_at "WS"
    refine W.giv (j := 11 - i) hG2 (by omega) (by omega) ?_
    walk_at "WS"
    cases q : g (11 - i) with
    | false =>
      refine iteT rfl ?_
      walk_at "WS"
      refine W.ifStr fun _ => ?_
      refine W.adds (by rw [Str.length_append, Str.length_append, acc_len, one_len _ _ _ (by decide +kernel) (by decide +kernel), one_len _ _ _ (by decide +kernel) (by decide +kernel), one_len _ _ _ (by decide +kernel) (by decide +kernel)]; unfold sizeLine; omega) fun _ => ?_
      walk_at "WS"
      have e : accS start g (i + 1) = ((accS start g i ++ if g (8 - 3 * i) = true then Str.ofString "r" else Str.ofString "-") ++ if g (7 - 3 * i) = true then Str.ofString "w" else Str.ofString "-") ++ (if g (6 - 3 * i) = true then Str.ofString "x" else Str.ofString "-") := by show pS g i (accS start g i) = _; unfold pS xS; rw [q]; rfl
      rw [← e]
      exact ⟨_, _, _, n', rfl, rfl⟩
    | true =>
      refine iteF rfl ?_
      walk_at "WS"
      by_cases q2 : i = 2
      · refine iteT (by rw [q2]; decide) ?_
        walk_at "WS"
        refine W.ifStr fun _ => ?_
        refine W.adds (by rw [Str.length_append, Str.length_append, acc_len, one_len _ _ _ (by decide +kernel) (by decide +kernel), one_len _ _ _ (by decide +kernel) (by decide +kernel), one_len _ _ _ (by decide +kernel) (by decide +kernel)]; unfold sizeLine; omega) fun _ => ?_
        walk_at "WS"
        have e : accS start g (i + 1) = ((accS start g i ++ if g (8 - 3 * i) = true then Str.ofString "r" else Str.ofString "-") ++ if g (7 - 3 * i) = true then Str.ofString "w" else Str.ofString "-") ++ (if g (6 - 3 * i) = true then Str.ofString "t" else Str.ofString "T") := by show pS g i (accS start g i) = _; unfold pS xS; rw [q, if_pos q2]; rfl
        rw [← e]
        exact ⟨_, _, _, n', rfl, rfl⟩
      · refine iteF (by simp; omega) ?_
        walk_at "WS"
        refine W.ifStr fun _ => ?_
        refine W.adds (by rw [Str.length_append, Str.length_append, acc_len, one_len _ _ _ (by decide +kernel) (by decide +kernel), one_len _ _ _ (by decide +kernel) (by decide +kernel), one_len _ _ _ (by decide +kernel) (by decide +kernel)]; unfold sizeLine; omega) fun _ => ?_
        walk_at "WS"
        have e : accS start g (i + 1) = ((accS start g i ++ if g (8 - 3 * i) = true then Str.ofString "r" else Str.ofString "-") ++ if g (7 - 3 * i) = true then Str.ofString "w" else Str.ofString "-") ++ (if g (6 - 3 * i) = true then Str.ofString "s" else Str.ofString "S") := by show pS g i (accS start g i) = _; unfold pS xS; rw [q]; rw [if_neg q2]; rfl
        rw [← e]
        exact ⟨_, _, _, n', rfl, rfl⟩
end
end
-- MG2
section
set_option maxHeartbeats 0
set_option autoImplicit false
/-- the rules whose zones hold for the host -/
noncomputable def fitsR (host : List String) (rs : List Rule) : List Rule := rs.filter fun r => lawH host (zoneL.getD r.place (false, []))
noncomputable def FitIn (n : Led) (v : Value) (r : Rule) : Prop := ∃ t tm, v = .ref t ∧ (t, tupOf [.bool r.plus, .int r.mask tm]) ∈ n
theorem zone_lens : ∀ z ∈ zoneL, z.2.length ≤ 8 ∧ z.2 ≠ [] ∧ ∀ s ∈ z.2, (Str.ofString s).length ≤ 100 := by decide +kernel
theorem fits_snoc (host : List String) (rs : List Rule) (r : Rule) : fitsR host (rs ++ [r]) = fitsR host rs ++ (if lawH host (zoneL.getD r.place (false, [])) then [r] else []) := by
  unfold fitsR
  rw [List.filter_append]
  congr 1
  rw [List.filter_cons]
  rfl
noncomputable def bitOn (m : Int) (b : Nat) : Bool := (m.fdiv (2 ^ b)).fmod 2 == 1
noncomputable def givB (start : Int) (fs : List Rule) (b : Nat) : Bool := ((fs.filter fun r => bitOn r.mask b).getLast?.map (·.plus)).getD (bitOn start b)
theorem FitIn.mono {n n' : Led} {v : Value} {r : Rule} (h : FitIn n v r) (k : ∀ p ∈ n, p ∈ n') : FitIn n' v r := let ⟨t, tm, a, b⟩ := h; ⟨t, tm, a, k _ b⟩
section
variable {C : Cx} {L : Loc} {n : Led} {Q : Value → Loc → Led → Prop}
theorem pow_ne (i : Nat) : (2 : Int) ^ i ≠ 0 := Int.pow_ne_zero (by decide)
theorem pow_pylong {x : Int} : ∀ i, i < 12 → Builtin.divisionGoesByPylong x ((2 : Int) ^ i) = false
  | 0, _ | 1, _ | 2, _ | 3, _ | 4, _ | 5, _ | 6, _ | 7, _ | 8, _ | 9, _ | 10, _ | 11, _ => PyProof.noPylong_small (by decide)
  | i + 12, h => absurd h (by omega)
theorem W.pow2 {i : Nat} {ta tb : Tok} (hi : i < 12) (h : ∀ t, Q (.int ((2 : Int) ^ i) t) L n) : W C (binaryOp .Pow (.int 2 ta) (.int (0 + (i : Int) * 1) tb)) L n Q := by
  refine W.pow (by omega) ?_ fun t => ?_
  · have e : Builtin.Int.intBits 2 = 2 := by decide +kernel
    rw [e]; omega
  · rw [show (0 + (i : Int) * 1).toNat = i by omega]; exact h t
theorem last_map {α β : Type} (f : α → β) (l : List α) : (l.map f).getLast? = l.getLast?.map f := by simp
theorem s882 {Ho R : Addr} {hs vs : List Value} {kh kr : Nat} {host : List String} {rs : List Rule} {start : Int} {ts : Tok} (ok : Ok C) (hr : C.A.depth < 880) (hu9 : C.A.units < 7000) (hH : (Ho, listOf hs.toArray kh) ∈ n) (hhs : StrsAre hs (host.map Str.ofString)) (hl1 : host.length ≤ 8) (hb1 : ∀ s ∈ host, (Str.ofString s).length ≤ 100)
    (hR : (R, listOf vs.toArray kr) ∈ n) (hrs : All2 (RuleIn n) vs rs) (hok : ∀ r ∈ rs, RuleOk r) (hlen : rs.length ≤ 8)
    (hs0 : 0 ≤ start) (hs1 : start < 65536)
    (h : ∀ n' t, Q (.str (accS start (fun b => givB start (fitsR host rs) b) 3) t) L (n' ++ n)) : W C (call (.ref 882) [.int start ts, .ref Ho, .ref R]) L n Q := by
  refine W.callC (f := f882) (binds := [(Str.ofString "start", .int start ts), (Str.ofString "host", .ref Ho), (Str.ofString "rules", .ref R)]) [some (.int start ts), some (.ref R), none, none, none, none, none, none] ok fo882 (by show _ < 1000; omega) (by kernel_rfl) (fun n x hx => ?_) ?_ fun C' ok' hf hw hd hu henv cells hcells => ?_
  · cases hx with
    | head => exact .inl (by kernel_rfl)
    | tail _ h => cases h with
      | head => exact .inr ⟨by kernel_rfl, by rw [cells882]; kernel_rfl⟩
      | tail _ h => cases h with
        | head => exact .inl (by kernel_rfl)
        | tail _ h => cases h
  · funext x
    have e1 : List.lookup (Str.ofString "start") f882.fd.scope.names = some NameKind.local := by kernel_rfl
    have e2 : List.lookup (Str.ofString "host") f882.fd.scope.names = some NameKind.cell := by kernel_rfl
    have e3 : List.lookup (Str.ofString "rules") f882.fd.scope.names = some NameKind.local := by kernel_rfl
    show (if x = Str.ofString "start" then some (Value.int start ts) else if x = Str.ofString "rules" then some (Value.ref R) else look2 _ (startL [Str.ofString "fits", Str.ofString "given", Str.ofString "said", Str.ofString "signs", Str.ofString "part", Str.ofString "run"] []) x) = _
    rw [look2_none]
    simp only [bindL, e1, e2, e3, if_true]
    have d1 : ¬ (Str.ofString "rules" = Str.ofString "start") := by decide +kernel
    by_cases q1 : x = Str.ofString "start"
    · subst q1; simp [Ne.symm d1]
    · simp [q1]
  have hns : C'.fn.ns = [Str.ofString "start", Str.ofString "rules", Str.ofString "fits", Str.ofString "given", Str.ofString "said", Str.ofString "signs", Str.ofString "part", Str.ofString "run"] := congrArg Fn.ns hf
  have hgn : C'.fn.gns = f882.gns := congrArg Fn.gns hf
  have hcs : C'.env.cells = [(Str.ofString "bit", C'.loc + 1 + 2), (Str.ofString "zones", C'.loc + 1 + 1), (Str.ofString "host", C'.loc + 1)] := by rw [henv]; exact cells882 _
  rw [hcs] at hcells
  obtain ⟨ob, oz, oh, rfl, hob, hoz, hoh⟩ : ∃ ob oz oh, cells = [(C'.loc + 1 + 2, ob), (C'.loc + 1 + 1, oz), (C'.loc + 1, oh)] ∧ (∃ v, ob.data = .cell v) ∧ (∃ v, oz.data = .cell v) ∧ oh.data = .cell (some (.ref Ho)) := by
    cases hcells with
    | cons h1 r1 => cases r1 with
      | cons h2 r2 => cases r2 with
        | cons h3 r3 =>
          cases r3
          exact ⟨_, _, _, rfl, ⟨_, h1⟩, ⟨_, h2⟩, h3⟩
  conv => arg 2; arg 1; whnf
  walk_at "WS"
  refine W.gl ok' hgn (by walk_at "MEM") (gt_ulaw_zones ok') ?_
  refine W.cw0 ok' (fo839.keep _) ?_
  refine s839 ok' (by omega) fun Z nz zs kz hZ hzs => ?_
  have kz : C'.env.kindOf (Str.ofString "zones") = some .cell := by rw [henv]; kernel_rfl
  have cz : C'.env.cells.lookup (Str.ofString "zones") = some (C'.loc + 1 + 1) := by rw [hcs]; kernel_rfl
  obtain ⟨vz, hoz⟩ := hoz
  refine W.perm (n' := (C'.loc + 1 + 2, ob) :: (C'.loc + 1 + 1, oz) :: (C'.loc + 1, oh) :: (nz ++ n)) ?_ ?_
  · have := perm_up (a := (C'.loc + 1 + 2, ob)) (b := (C'.loc + 1 + 1, oz)) (c := (C'.loc + 1, oh)) nz [] n
    simp only [List.append_nil, List.nil_append] at this
    exact this.symm
  refine W.stc (N := fun o => (C'.loc + 1 + 2, ob) :: (C'.loc + 1 + 1, o) :: (C'.loc + 1, oh) :: (nz ++ n)) ok' kz cz (fun _ => .there .here) hoz fun oz2 hoz2 => ?_
  refine seqn ?_
  refine W.cons ?_
  refine W.assComp (cl := [(Str.ofString "zones", C'.loc + 1 + 1), (Str.ofString "host", C'.loc + 1)]) [Str.ofString "plus", Str.ofString "place", Str.ofString "mask"] [Str.ofString "_law_holds"] ok' hu (hns ▸ (by walk_at "MEM")) (by rw [henv]; kernel_rfl) ?_ (by decide +kernel) (by decide) rfl (by decide +kernel)
  walk_at "WS"
  refine W.iterL ok' (.tail _ (.tail _ (.tail _ (List.mem_append_right _ hR)))) fun I o ho It => ?_
  have hvl : vs.length = rs.length := hrs.len
  refine ⟨I, _, _, _, _, fun i ys Lc n2 => (∃ a b c, Lc = [a, b, c]) ∧ (∃ n3, n2 = n3 ++ ((C'.loc + 1 + 2, ob) :: (C'.loc + 1 + 1, oz2) :: (C'.loc + 1, oh) :: (nz ++ n)) ∧ All2 (FitIn n3) ys (fitsR host (rs.take i))), [(I, o)], _, rfl, rfl, by rw [List.size_toArray, hvl]; unfold sizeLine; omega, It, ⟨o, rfl, ho⟩,
    ⟨⟨_, _, _, rfl⟩, [], rfl, .nil⟩, ?_, ?_, ?_⟩
  · rintro i ys Lc n2 ⟨_, n3, rfl, hys⟩
    exact List.mem_append_right _ (.tail _ (.tail _ (.tail _ (List.mem_append_right _ hR))))
  · rintro C1 hid1 ok1 D m ys Lc n2 ⟨_, n3, rfl, hys⟩
    have hns1 : C1.fn.ns = [Str.ofString "start", Str.ofString "rules", Str.ofString "fits", Str.ofString "given", Str.ofString "said", Str.ofString "signs", Str.ofString "part", Str.ofString "run"] := (congrArg Fn.ns hid1.fn).trans hns
    rw [List.size_toArray, hvl, List.take_length] at hys
    refine W.st ok1 hns1 (by walk_at "SET") ?_
    walk_at "WS"
    rename_i Gv
    refine W.forI ok' hu ?_
    walk_at "WS"
    walk_at "BL"
    walk_at "WS"
    rename_i t12
    refine W.range1 fun rg ta tb => ?_
    refine W.iterR ok' (k := 12) (.head _) (by decide +kernel) (by decide +kernel) fun I It => ?_
    have hpm : ((rg, rangeO 0 12 1 ta t12 tb) :: (Gv, listOf #[] 0) :: (D, listOf (List.toArray ys) m) :: (n3 ++ ((C'.loc + 1 + 2, ob) :: (C'.loc + 1 + 1, oz2) :: (C'.loc + 1, oh) :: (nz ++ n)))).Perm
        ((C'.loc + 1 + 2, ob) :: (Gv, listOf #[] 0) :: ([] ++ ((rg, rangeO 0 12 1 ta t12 tb) :: (D, listOf (List.toArray ys) m) :: (n3 ++ ((C'.loc + 1 + 1, oz2) :: (C'.loc + 1, oh) :: (nz ++ n)))))) := by
      have h1 := List.perm_middle (a := (C'.loc + 1 + 2, ob)) (l₁ := (rg, rangeO 0 12 1 ta t12 tb) :: (Gv, listOf #[] 0) :: (D, listOf (List.toArray ys) m) :: n3) (l₂ := ((C'.loc + 1 + 1, oz2) :: (C'.loc + 1, oh) :: (nz ++ n)))
      simp only [List.cons_append, List.nil_append] at h1 ⊢
      exact h1.trans (List.Perm.cons _ (List.Perm.swap _ _ _))
    generalize hBase : ((rg, rangeO 0 12 1 ta t12 tb) :: (D, listOf (List.toArray ys) m) :: (n3 ++ ((C'.loc + 1 + 1, oz2) :: (C'.loc + 1, oh) :: (nz ++ n)))) = nB at hpm
    have hDB : (D, listOf (List.toArray ys) m) ∈ nB := hBase ▸ .tail _ (.head _)
    have hFB : All2 (FitIn nB) ys (fitsR host rs) := hys.mono fun _ _ x => x.mono fun p hp => hBase ▸ .tail _ (.tail _ (List.mem_append_left _ hp))
    refine ⟨I, _, _, _, _, fun i L n2 => ∃ a gs k n6 ob, L = [some (.int start ts), some (.ref R), some (.ref D), some (.ref Gv), a, none, none, none] ∧ n2.Perm ((C'.loc + 1 + 2, ob) :: (Gv, listOf (List.toArray gs) k) :: (n6 ++ nB)) ∧ (∃ v, ob.data = .cell v) ∧ gs = (List.range i).map fun b => Value.bool (givB start (fitsR host rs) b), _, _, rfl, rfl, It, ⟨_, rfl, rfl⟩, ⟨_, [], 0, [], ob, rfl, hpm, hob, rfl⟩, fun _ _ _ _ => trivial, ?_, ?_⟩
    · rintro L2 n2 ⟨a, gs, k, n6, ob, rfl, hp, ⟨vb, hob⟩, hgs⟩
      refine W.perm hp.symm ?_
      refine W.nil ?_
      refine seqn ?_
      subst hgs
      show W C' (execs ((bodyOf (stAt 64)).drop 4) C'.env) _ _ _
      refine listTail (g := fun b => givB start (fitsR host rs) b) ok' hu hf (.tail _ (.head _)) hs0 hs1 fun n' L' t => ?_
      have e : ∃ m, n' ++ ((C'.loc + 1 + 2, ob) :: (Gv, listOf ((List.range 12).map fun b => Value.bool (givB start (fitsR host rs) b)).toArray k) :: (n6 ++ nB)) = m ++ n := by
        rw [← hBase]
        refine ⟨n' ++ ((C'.loc + 1 + 2, ob) :: (Gv, listOf ((List.range 12).map fun b => Value.bool (givB start (fitsR host rs) b)).toArray k) :: (n6 ++ ((rg, rangeO 0 12 1 ta t12 tb) :: (D, listOf (List.toArray ys) m) :: (n3 ++ ((C'.loc + 1 + 1, oz2) :: (C'.loc + 1, oh) :: nz))))), ?_⟩
        simp only [List.append_assoc, List.cons_append]
      obtain ⟨m2, e⟩ := e
      rw [e]
      exact h m2 t
    · rintro C2 hid ok2 i v q L2 n2 hi ⟨rfl, tv, rfl⟩ ⟨a, gs, k, n6, ob, rfl, hp, ⟨vb, hob⟩, hgs⟩
      have hns2 : C2.fn.ns = [Str.ofString "start", Str.ofString "rules", Str.ofString "fits", Str.ofString "given", Str.ofString "said", Str.ofString "signs", Str.ofString "part", Str.ofString "run"] := (congrArg Fn.ns hid.fn).trans hns
      have hgn2 : C2.fn.gns = f882.gns := (congrArg Fn.gns hid.fn).trans hgn
      have hE2 : C2.E = fun _ _ => False := hid.E.trans hu
      have henv2 : C2.env = callEnvC f882.fd C'.loc 882 := hid.env.trans henv
      have kb : C2.env.kindOf (Str.ofString "bit") = some .cell := by rw [henv2]; kernel_rfl
      have cb : C2.env.cells.lookup (Str.ofString "bit") = some (C'.loc + 1 + 2) := by rw [hid.env, hcs]; kernel_rfl
      refine W.perm hp.symm ?_
      refine W.asgN ?_
      refine W.stc (N := fun o => (C'.loc + 1 + 2, o) :: (Gv, listOf (List.toArray gs) k) :: (n6 ++ nB)) ok2 kb cb (fun _ => .here) hob fun ob2 hob2 => ?_
      refine W.cons ?_
      refine W.assComp (cl := [(Str.ofString "bit", C'.loc + 1 + 2)]) [Str.ofString "plus", Str.ofString "mask"] [] ok2 hE2 (hns2 ▸ (by walk_at "MEM")) (by rw [henv2]; kernel_rfl) ?_ (by decide +kernel) (by decide) rfl (by decide +kernel)
      refine W.nm ok2 hns2 (by walk_at "AT") ?_
      refine W.iterL ok2 (.tail _ (.tail _ (List.mem_append_right _ hDB))) fun I2 o2 ho2 It2 => ?_
      have hyl : ys.length = (fitsR host rs).length := hFB.len
      have hfl : (fitsR host rs).length ≤ 8 := Nat.le_trans (List.length_filter_le _ _) hlen
      refine ⟨I2, _, _, _, _, fun j zs Lc n7 => (∃ a b, Lc = [a, b]) ∧ n7 = ((C'.loc + 1 + 2, ob2) :: (Gv, listOf (List.toArray gs) k) :: (n6 ++ nB)) ∧ zs = ((((fitsR host rs).take j).filter fun r => bitOn r.mask i).map fun r => Value.bool r.plus), [(I2, o2)], _, rfl, rfl, by rw [List.size_toArray, hyl]; unfold sizeLine; omega, It2, ⟨o2, rfl, ho2⟩, ⟨⟨_, _, rfl⟩, rfl, rfl⟩, ?_, ?_, ?_⟩
      · rintro j zs Lc n7 ⟨_, rfl, _⟩
        exact .tail _ (.tail _ (List.mem_append_right _ hDB))
      · rintro C4 hid4 ok4 D4 m4 zs Lc n7 ⟨_, rfl, hzs⟩
        have hns4 : C4.fn.ns = [Str.ofString "start", Str.ofString "rules", Str.ofString "fits", Str.ofString "given", Str.ofString "said", Str.ofString "signs", Str.ofString "part", Str.ofString "run"] := (congrArg Fn.ns hid4.fn).trans hns2
        rw [List.size_toArray, hyl, List.take_length] at hzs
        refine W.st ok4 hns4 (by walk_at "SET") ?_
        refine seqn ?_
        walk_at "WS"
        refine W.getAppend (.tail _ (.tail _ (.head _))) ?_
        refine W.cbm ?_
        refine W.spc ?_
        walk_at "WS"
        rename_i Ne
        refine W.neNil (by rw [hid.A]; omega) (.tail _ (.head _)) (.head _) ?_
        walk_at "WS"
        have hgl : gs.length = i := by rw [hgs]; simp
        have fin : ∀ v, v = Value.bool (givB start (fitsR host rs) i) → W C2 (call (.builtin "list.append") [.ref Gv, v]) [some (Value.int start ts), some (Value.ref R), some (Value.ref D), some (Value.ref Gv), some (Value.ref D4), none, none, none]
            ((Ne, listOf #[] 0) :: (D4, listOf zs.toArray m4) :: (C'.loc + 1 + 2, ob2) :: (Gv, listOf gs.toArray k) :: (n6 ++ nB)) fun _ L₁ n₁ => ∃ a gs k n6 ob, L₁ = [some (.int start ts), some (.ref R), some (.ref D), some (.ref Gv), a, none, none, none] ∧ n₁.Perm ((C'.loc + 1 + 2, ob) :: (Gv, listOf (List.toArray gs) k) :: (n6 ++ nB)) ∧ (∃ v, ob.data = .cell v) ∧ gs = (List.range (i + 1)).map fun b => Value.bool (givB start (fitsR host rs) b) := fun v hv => by
          refine W.append (N := fun o => (Ne, listOf #[] 0) :: (D4, listOf zs.toArray m4) :: (C'.loc + 1 + 2, ob2) :: (Gv, o) :: (n6 ++ nB)) (fun _ => .there (.there (.there .here))) (by rw [List.size_toArray, hgl]; unfold sizeLine; omega) fun k5 => ?_
          refine ⟨_, gs ++ [v], k5, (Ne, listOf #[] 0) :: (D4, listOf zs.toArray m4) :: n6, ob2, rfl, ?_, ⟨_, hob2⟩, ?_⟩
          · rw [← List.push_toArray]
            have h1 := List.perm_middle (a := (C'.loc + 1 + 2, ob2)) (l₁ := [(Ne, listOf #[] 0), (D4, listOf zs.toArray m4)]) (l₂ := (Gv, listOf (gs.toArray.push v) k5) :: (n6 ++ nB))
            refine h1.trans (List.Perm.cons _ ?_)
            exact List.perm_middle (a := (Gv, listOf (gs.toArray.push v) k5)) (l₁ := [(Ne, listOf #[] 0), (D4, listOf zs.toArray m4)]) (l₂ := n6 ++ nB)
          · rw [List.range_succ, List.map_append, ← hgs, hv]; rfl
        cases qe : zs.isEmpty with
        | true =>
          have hz0 : zs = [] := List.isEmpty_iff.mp qe
          have hf0 : (fitsR host rs).filter (fun r => bitOn r.mask i) = [] := by
            rw [hz0] at hzs
            exact List.map_eq_nil_iff.mp hzs.symm
          refine iteF rfl ?_
          walk_at "WS"
          refine W.ldc ok2 kb cb (.tail _ (.tail _ (.head _))) hob2 ?_
          refine W.pow2 hi fun t1 => ?_
          refine W.fdiv (pow_ne i) (pow_pylong i hi) fun t2 => ?_
          walk_at "WS"
          refine W.mod (by decide) fun t3 => ?_
          walk_at "WS"
          refine (fin _ ?_).mono fun _ _ _ q => ?_
          · unfold givB
            rw [hf0]
            rfl
          · walk_at "WS"
            exact q
        | false =>
          refine iteT rfl ?_
          refine W.subs ?_
          walk_at "WS"
          obtain ⟨lr, hlr⟩ : ∃ lr, ((fitsR host rs).filter fun r => bitOn r.mask i).getLast? = some lr := by
            cases qq : ((fitsR host rs).filter fun r => bitOn r.mask i).getLast? with
            | none =>
              rw [List.getLast?_eq_none_iff] at qq
              rw [hzs, qq] at qe
              cases qe
            | some lr => exact ⟨lr, rfl⟩
          refine W.itemLast (x := .bool lr.plus) (.tail _ (.head _)) (by rw [hzs, last_map, hlr]; rfl) ?_
          walk_at "WS"
          refine (fin _ ?_).mono fun _ _ _ q => ?_
          · unfold givB
            rw [hlr]
            rfl
          · walk_at "WS"
            exact q
      · rintro C3 ok3 hw3 hA3 hE3 hns3 hgn3 henv3 j zs v q Lc n7 hj ⟨rfl, hv⟩ ⟨⟨a3, b3, rfl⟩, rfl, hzs3⟩
        have hv' : ys[j]? = some v := by simpa using hv
        obtain ⟨ru, hru, t, tm, rfl, ht⟩ := hFB.get hv'
        have kb3 : C3.env.kindOf (Str.ofString "bit") = some .cell := by rw [henv3, henv2]; kernel_rfl
        have cb3 : C3.env.cells.lookup (Str.ofString "bit") = some (C'.loc + 1 + 2) := by rw [henv3]; kernel_rfl
        refine W.asgT ok3 (.inl (.tail _ (.tail _ (List.mem_append_right _ ht)))) ⟨rfl, _, rfl⟩ ?_
        refine W.aioN ?_
        walk_at "WS"
        refine W.aioN ?_
        walk_at "WS"
        refine W.aioE ?_
        simp only [compT]
        walk_at "WS"
        refine W.ldc ok3 kb3 cb3 (.head _) hob2 ?_
        refine W.pow2 hi fun t1 => ?_
        refine W.fdiv (pow_ne i) (pow_pylong i hi) fun t2 => ?_
        walk_at "WS"
        refine W.mod (by decide) fun t3 => ?_
        walk_at "WS"
        have et : (fitsR host rs).take (j + 1) = (fitsR host rs).take j ++ [ru] := by rw [List.take_add_one, hru]; rfl
        cases qb : bitOn ru.mask i with
        | false =>
          refine iteF (by unfold bitOn at qb; exact qb) ?_
          refine ⟨⟨_, _, rfl⟩, rfl, ?_⟩
          rw [et, List.filter_append, List.map_append, ← hzs3]
          simp [qb]
        | true =>
          refine iteT (by unfold bitOn at qb; exact qb) ?_
          walk_at "WS"
          refine ⟨⟨_, _, rfl⟩, rfl, ?_⟩
          rw [et, List.filter_append, List.map_append, ← hzs3]
          simp [qb]
  · rintro C1 ok1 hw1 hA1 hE1 hns1 hgn1 henv1 i ys v q Lc n2 hi ⟨rfl, hv⟩ ⟨⟨a, b, c, rfl⟩, n3, rfl, hys⟩
    have hv' : vs[i]? = some v := by simpa using hv
    obtain ⟨ru, hru, t, tp, tm, rfl, ht⟩ := hrs.get hv'
    have rok := hok ru (List.mem_of_getElem? hru)
    have kz1 : C1.env.kindOf (Str.ofString "zones") = some .cell := by rw [henv1, henv]; kernel_rfl
    have kh1 : C1.env.kindOf (Str.ofString "host") = some .cell := by rw [henv1, henv]; kernel_rfl
    have cz1 : C1.env.cells.lookup (Str.ofString "zones") = some (C'.loc + 1 + 1) := by rw [henv1]; kernel_rfl
    have ch1 : C1.env.cells.lookup (Str.ofString "host") = some (C'.loc + 1) := by rw [henv1]; kernel_rfl
    have hin : ∀ p ∈ n, p ∈ n3 ++ ((C'.loc + 1 + 2, ob) :: (C'.loc + 1 + 1, oz2) :: (C'.loc + 1, oh) :: (nz ++ n)) := fun p hp => List.mem_append_right _ (.tail _ (.tail _ (.tail _ (List.mem_append_right _ hp))))
    have hinz : ∀ p ∈ nz, p ∈ n3 ++ ((C'.loc + 1 + 2, ob) :: (C'.loc + 1 + 1, oz2) :: (C'.loc + 1, oh) :: (nz ++ n)) := fun p hp => List.mem_append_right _ (.tail _ (.tail _ (.tail _ (List.mem_append_left _ hp))))
    have hc3 : ∀ p ∈ ((C'.loc + 1 + 2, ob) :: (C'.loc + 1 + 1, oz2) :: (C'.loc + 1, oh) :: (nz ++ n)), p ∈ n3 ++ ((C'.loc + 1 + 2, ob) :: (C'.loc + 1 + 1, oz2) :: (C'.loc + 1, oh) :: (nz ++ n)) := fun p hp => List.mem_append_right _ hp
    have hzm := zone_mem rok.place
    obtain ⟨zv, hzv, tz, lz, rfl, htz, us, ku, hlz, hus⟩ := hzs.get' (i := ru.place) (b := zoneL.getD ru.place (false, [])) (by
      have : ru.place < zoneL.length := rok.place
      rw [List.getElem?_eq_getElem this, List.getD_eq_getElem?_getD, List.getElem?_eq_getElem this]; rfl)
    obtain ⟨zl1, zl2, zl3⟩ := zone_lens _ hzm
    have hr1 : C1.A.depth < 885 := by rw [hA1]; omega
    have hu1 : C1.A.units < 7900 := by rw [hA1]; omega
    refine W.asgT ok1 (.inl (hin _ ht)) ⟨rfl, _, rfl⟩ ?_
    refine W.aioN ?_
    walk_at "WS"
    refine W.aioN ?_
    walk_at "WS"
    refine W.aioN ?_
    walk_at "WS"
    refine W.aioE ?_
    simp only [compT]
    walk_at "WS"
    refine W.gl ok1 hgn1 (by walk_at "MEM") (gt_ulaw_holds ok1) ?_
    refine W.cw ok1 (fo877.keep _) ?_
    walk_at "WS"
    refine W.ldc ok1 kh1 ch1 (hc3 _ (.tail _ (.tail _ (.head _)))) hoh ?_
    walk_at "WS"
    refine W.subs ?_
    refine W.ldc ok1 kz1 cz1 (hc3 _ (.tail _ (.head _))) hoz2 ?_
    walk_at "WS"
    refine W.item (hinz _ hZ) (by omega) (by have := rok.place; omega) (by simpa using hzv) ?_
    walk_at "WS"
    refine s877 ok1 (by omega) (by omega) (hin _ hH) hhs (hinz _ htz) (hinz _ hlz) hus hl1 zl1 hb1 zl3 zl2 fun n4 => ?_
    walk_at "WS"
    have et : rs.take (i + 1) = rs.take i ++ [ru] := by rw [List.take_add_one, hru]; rfl
    cases ql : lawH host (zoneL.getD ru.place (false, [])) with
    | false =>
      refine iteF rfl ?_
      refine ⟨⟨_, _, _, rfl⟩, n4 ++ n3, by rw [List.append_assoc]; rfl, ?_⟩
      rw [et, fits_snoc, ql]
      simpa using hys.mono fun _ _ x => x.mono fun p hp => List.mem_append_right _ hp
    | true =>
      refine iteT rfl ?_
      walk_at "WS"
      rename_i tt
      refine ⟨⟨_, _, _, rfl⟩, (tt, tupOf [.bool ru.plus, .int ru.mask tm]) :: (n4 ++ n3), by rw [List.cons_append, List.append_assoc]; rfl, ?_⟩
      rw [et, fits_snoc, ql]
      exact (hys.mono fun _ _ x => x.mono fun p hp => .tail _ (List.mem_append_right _ hp)).snoc ⟨tt, tm, rfl, .head _⟩
end
end
-- MEn
section
set_option maxHeartbeats 0
set_option autoImplicit false
section
variable {prog : Program} {w : World} {A : Around} {E : Value → Shared → Prop} {s : Shared}
theorem nextOf_tup_item {it l : Addr} {i : Nat} {items : Array Value} {x : Value} {Q : Value → Shared → Prop} (hit : s.heap.IsTupleIter it l i) (hl : s.heap.IsTuple l items) (hx : items[i]? = some x)
    (hQ : ∀ h', h'.IsTupleIter it l (i + 1) → Heap.SameBut it s.heap h' → Q x { s with heap := h' }) : wpAny (model prog w) A (Builtin.SmallTypes.nextOf (.ref it)) Q E s := by
  obtain ⟨o, ho, hc, hd⟩ := id hit
  obtain ⟨ol, hol, _, nl, hdl⟩ := hl
  unfold Builtin.SmallTypes.nextOf
  refine wpAny_bind (wpAny_callSpecial?_slot (name := Str.ofString "__next__") hit.typeIs F.slot_tuple_iterator_next
    (wpAny_call_entry F.slot_tuple_iterator_next hit.typeIs F.entry_tuple_iterator_next ?_ (F.args_tuple_iterator_next_1 _)))
  show wpAny _ _ (field (.ref it) 0 >>= _) _ _ s
  refine wpAny_bind (wpAny_field ho hd (x := .ref l) rfl ?_)
  show wpAny _ _ (if (Value.ref l == Value.none) = true then _ else _) _ _ s
  rw [if_neg (show ¬ ((Value.ref l == Value.none) = true) from Bool.false_ne_true)]
  show wpAny _ _ (field (.ref it) 1 >>= _) _ _ s
  refine wpAny_bind (wpAny_field ho hd (x := .int i 0) rfl ?_)
  show wpAny _ _ (seqItems? (.ref l) >>= _) _ _ s
  refine wpAny_bind (wpAny_seqItems hol hdl ?_)
  simp only [Int.toNat_natCast, hx]
  refine wpAny_bind (wpAny_setField ho hd (by simp) (wpAny_pure ⟨x, rfl, wpAny_pure (hQ _ ?_ (Heap.SameBut.update ..))⟩))
  exact ⟨_, Heap.get?_update_self _ ho (Obj.isFreed_of_fields (Obj.data_mapFields hd _)), (Obj.cls_mapFields ..).trans hc, by
    rw [Obj.data_mapFields hd]; simp [rawInt]⟩
theorem nextOf_tup_end {it l : Addr} {i : Nat} {items : Array Value} {Q : Value → Shared → Prop} (hh : A.handled = none) (hit : s.heap.IsTupleIter it l i) (hl : s.heap.IsTuple l items) (hx : items[i]? = none)
    (hE : ∀ h' e, Heap.ExtBut it s.heap h' → (∃ o, h'.get? e = some o ∧ o.cls = .type "StopIteration") → E (.ref e) { s with heap := h' }) : wpAny (model prog w) A (Builtin.SmallTypes.nextOf (.ref it)) Q E s := by
  obtain ⟨o, ho, hc, hd⟩ := id hit
  obtain ⟨ol, hol, _, nl, hdl⟩ := hl
  unfold Builtin.SmallTypes.nextOf
  refine wpAny_bind (wpAny_callSpecial?_slot (name := Str.ofString "__next__") hit.typeIs F.slot_tuple_iterator_next
    (wpAny_call_entry F.slot_tuple_iterator_next hit.typeIs F.entry_tuple_iterator_next ?_ (F.args_tuple_iterator_next_1 _)))
  show wpAny _ _ (field (.ref it) 0 >>= _) _ _ s
  refine wpAny_bind (wpAny_field ho hd (x := .ref l) rfl ?_)
  show wpAny _ _ (if (Value.ref l == Value.none) = true then _ else _) _ _ s
  rw [if_neg (show ¬ ((Value.ref l == Value.none) = true) from Bool.false_ne_true)]
  show wpAny _ _ (field (.ref it) 1 >>= _) _ _ s
  refine wpAny_bind (wpAny_field ho hd (x := .int i 0) rfl ?_)
  show wpAny _ _ (seqItems? (.ref l) >>= _) _ _ s
  refine wpAny_bind (wpAny_seqItems hol hdl ?_)
  simp only [Int.toNat_natCast, hx]
  refine wpAny_bind (wpAny_rule (wpAny_bind (wpAny_setField ho hd (by simp) ?_)))
  show wpAny _ _ (newExc (.type "StopIteration") [] >>= _) _ _ _
  refine wpAny_bind ?_
  simp only [newExc, newTuple]
  refine wpAny_bind (wpAny_newObj_type ?_ (by size_fits))
  refine wpAny_bind (m := firstArgMember _ _) (wpAny_of_eq (a := Value.none) (by first | rfl | (simp only [firstArgMember]; rfl)) ?_)
  refine wpAny_newObj_type ?_ (by size_fits)
  simp only [raiseNew]
  refine wpAny_bind (wpAny_handled ?_)
  first | rw [show A.in1.handled = none from hh] | rw [hh]
  refine wpAny_bind (wpAny_pure (wpAny_throw ?_))
  exact hE _ _ (((Heap.SameBut.update ..).extBut.push _).push _) ⟨_, Heap.get?_push_size _ rfl, rfl⟩
theorem drawsTup (hh : A.handled = none) (it l : Addr) (hne : l ≠ it) (items : Array Value) :
    Draws prog w A it [it, l] items.size (fun i v => items[i]? = some v) (fun i h => h.IsTupleIter it l i ∧ h.IsTuple l items) where
  live := fun _ _ st => let ⟨o, ho, _⟩ := st.1; ⟨o, ho⟩
  frame := fun _ _ _ st hk => ⟨let ⟨o, ho, r⟩ := st.1; ⟨o, hk it (by simp) o ho, r⟩, let ⟨o, ho, r⟩ := st.2; ⟨o, hk l (by simp) o ho, r⟩⟩
  item := fun i s Q E hi st hQ => by
    refine nextOf_tup_item st.1 st.2 (x := items[i]) (by simp [hi]) fun h' hit' hs' => ?_
    exact hQ _ h' s.toks (by simp [hi]) ⟨hit', let ⟨o, ho, r⟩ := st.2; ⟨o, (hs'.2 l hne).trans ho, r⟩⟩ hs'
  done := fun s Q E st hE => nextOf_tup_end hh st.1 st.2 (by simp) hE
theorem enumNewT (l : Addr) (items : Array Value) (n : Nat) :
    Meets (Builtin.«enumerate.__new__» ⟨[.type "enumerate", .ref l], []⟩) (fun _ R s => s.heap.get? l = some { cls := .type "tuple", data := .seq items n } ∧
      R (.ok (.ret (.ref (s.heap.push { cls := .type "tuple_iterator", data := .fields #[.ref l, .int 0 0] }).objs.size)))
        { s with heap := (s.heap.push { cls := .type "tuple_iterator", data := .fields #[.ref l, .int 0 0] }).push { cls := .type "enumerate", data := .fields #[.none, .bool false, .ref s.heap.objs.size, rawInt 0, .none, .none] } }) :=
  .of_wp fun prog w A R s h => by
    obtain ⟨hp, g, d, tk, os⟩ := s; obtain ⟨hl, h⟩ := h
    have hsub := sub_enumerate
    have hL : Heap.IsTuple (Shared.heap ⟨hp, g, d, tk, os⟩) l items := ⟨_, hl, rfl, n, rfl⟩
    wp_walk using AutoSeq1.wpAny_loadPart' hl
    refine wpAny_stack_any fun st => wpAny_pure ?_
    split
    · rename_i c _ _ _ _ _
      cases (c == Value.type "enumerate")
      · wp_walk using AutoSeq1.wpAny_loadPart' hl, wpAny_pyIter_tuple hL
        exact ⟨_, rfl, h⟩
      · wp_walk using AutoSeq1.wpAny_loadPart' hl, wpAny_pyIter_tuple hL
        exact ⟨_, rfl, h⟩
    · wp_walk using AutoSeq1.wpAny_loadPart' hl, wpAny_pyIter_tuple hL
      exact ⟨_, rfl, h⟩
end
noncomputable abbrev enO (it : Addr) (i : Int) (old : Value) : Obj := { cls := .type "enumerate", dict := none, data := .fields #[.none, .bool false, .ref it, rawInt i, .none, old], slots := #[] }
section
variable {C : Cx} {L : Loc} {n : Led} {Q : Value → Loc → Led → Prop} {QF : Flow → Loc → Led → Prop}
theorem Sta.chg2 {s : Shared} {h' : Heap} {tk : Nat} {e it : Addr} {oe oit oe' oit' oT : Obj} (hs : Sta C L ((e, oe) :: (it, oit) :: n) s) (ge : h'.get? e = some oe') (gi : h'.get? it = some oit') (gT : h'.get? s.heap.objs.size = some oT)
    (hk : ∀ b o, b ≠ e → b ≠ it → s.heap.get? b = some o → h'.get? b = some o) : Sta C L ((e, oe') :: (it, oit') :: (s.heap.objs.size, oT) :: n) { s with heap := h', toks := tk } := by
  have z1 := hs.nw (e, oe) (List.mem_append_left _ (.head _))
  have z2 := hs.nw (it, oit) (List.mem_append_left _ (.tail _ (.head _)))
  obtain ⟨oL, es, ep, hL, r⟩ := hs.fr.ns
  have nd := hs.nd
  simp only [List.cons_append, List.map_cons, List.nodup_cons] at nd
  have lt : ∀ p ∈ ((e, oe) :: (it, oit) :: n) ++ C.hid, p.1 < s.heap.objs.size := fun p hp => Heap.lt_size (hs.nw p hp).1
  refine ⟨⟨⟨oL, es, ep, hk _ _ (fun q => z1.2.1 q.symm) (fun q => z2.2.1 q.symm) hL, r⟩, fun b o q => hk b o (fun x => ?_) (fun x => ?_) (hs.fr.keep b o q), hs.fr.above⟩, fun p hp => ?_, ?_, hs.gb, hs.os⟩
  · rw [x, z1.2.2] at q; cases q
  · rw [x, z2.2.2] at q; cases q
  · have hp' : p ∈ (e, oe') :: (it, oit') :: (s.heap.objs.size, oT) :: (n ++ C.hid) := hp
    cases hp' with
    | head => exact ⟨ge, z1.2⟩
    | tail _ hp => cases hp with
      | head => exact ⟨gi, z2.2⟩
      | tail _ hp => cases hp with
        | head => exact ⟨gT, Nat.ne_of_gt (Heap.lt_size hL), by
            cases q : C.h₀.get? s.heap.objs.size with
            | none => rfl
            | some o => exact absurd (Heap.lt_size (hs.fr.keep _ _ q)) (Nat.lt_irrefl _)⟩
        | tail _ hp =>
          have z := hs.nw p (.tail _ (.tail _ hp))
          exact ⟨hk _ _ (fun q => nd.1 (.tail _ (List.mem_map.mpr ⟨p, hp, q⟩))) (fun q => nd.2.1 (List.mem_map.mpr ⟨p, hp, q⟩)) z.1, z.2⟩
  · simp only [List.cons_append, List.map_cons, List.nodup_cons]
    refine ⟨fun hm => ?_, fun hm => ?_, fun hm => ?_, nd.2.2⟩
    · rcases List.mem_cons.mp hm with q | hm
      · exact nd.1 (by rw [q]; exact .head _)
      · rcases List.mem_cons.mp hm with q | hm
        · exact absurd (lt _ (.head _)) (by dsimp only; rw [q]; exact Nat.lt_irrefl _)
        · exact nd.1 (.tail _ hm)
    · rcases List.mem_cons.mp hm with q | hm
      · exact absurd (lt _ (.tail _ (.head _))) (by dsimp only; rw [q]; exact Nat.lt_irrefl _)
      · exact nd.2.1 hm
    · obtain ⟨p, hp, q⟩ := List.mem_map.mp hm
      exact absurd (lt p (.tail _ (.tail _ hp))) (by rw [q]; exact Nat.lt_irrefl _)
theorem W.enumT {l : Addr} {xs : Array Value} {m : Nat} (ok : Ok C) (hl : Has C n l { cls := .type "tuple", data := .seq xs m }) (h : ∀ e it oit, isIt "tuple_iterator" (.ref l) 0 oit → l ≠ it → e ≠ it → e ≠ l → Q (.ref e) L ((e, enO it 0 .none) :: (it, oit) :: n)) : W C (call (.type "enumerate") [.ref l]) L n Q := fun s hs => by
  have hg := hl.get ok hs
  refine callType_new F.called_enumerate (by decide) (F.typeCall_enumerate_1 _) (F.newCall_enumerate_1 _) (fun obj => F.args_object_init_2 obj _) F.entry_enumerate_new (enumNewT l xs m) ⟨hg, ?_⟩
  have hs1 := hs.push { cls := .type "tuple_iterator", data := .fields #[.ref l, .int 0 0] }
  have hs2 := hs1.push (enO s.heap.objs.size 0 .none)
  have hlt := Heap.lt_size hg
  have hz : (s.heap.push { cls := .type "tuple_iterator", data := .fields #[.ref l, .int 0 0] }).objs.size = s.heap.objs.size + 1 := Heap.size_push ..
  exact ⟨⟨_, hs2.mem (.head _), rfl⟩, L, _, hs2, h _ _ _ ⟨rfl, rfl⟩ (Nat.ne_of_lt hlt) (by rw [hz]; exact Nat.succ_ne_self _) (by rw [hz]; exact Nat.ne_of_gt (Nat.lt_succ_of_lt hlt))⟩
/-- for a, b in enumerate(tuple) -/
theorem W.forEnum {elts x1 tpos iter body orelse pos} (ok : Ok C) (hE : C.E = fun _ _ => False)
    (h : W C (eval iter C.env) L n fun x L₁ n₁ =>
      ∃ (e it l : Addr) (oit : Obj) (ol : Obj) (xs : Array Value) (J : Nat → Loc → Led → Prop) (n₃ : Led), x = .ref e ∧ n₁ = (e, enO it 0 .none) :: (it, oit) :: n₃ ∧ isIt "tuple_iterator" (.ref l) 0 oit ∧ l ≠ it ∧ e ≠ it ∧ e ≠ l ∧ isTupO ol xs ∧ J 0 L₁ n₃ ∧ (∀ i L n, J i L n → Has C n l ol) ∧
        (∀ L n, J xs.size L n → W C (execs orelse C.env) L n QF) ∧
        ∀ C', Hid C C' → Ok C' → ∀ i T t v L₄ n₄, i < xs.size → xs[i]? = some v → J i L₄ n₄ → W C' (assign (.Tuple elts x1 tpos) C'.env (.ref T)) L₄ ((T, tupOf [.int i t, v]) :: n₄) fun _ L₅ n₅ => W C' (execs body C'.env) L₅ n₅ (LoopQ (J (i + 1)) QF))
    (hf : ∀ x, foldedSetIterable iter C.env x = Pure.pure x := by intro _; with_unfolding_all rfl) : W C (exec (.For (.Tuple elts x1 tpos) iter body orelse pos) C.env) L n QF := fun s hs => by
  refine wpAny_For (lift1 h hs fun x s₁ L₁ n₁ h₁ q₁ => ?_) hf
  obtain ⟨e, it, l, oit, ol, xs, J, n₃, rfl, rfl, hit, hli, hei, hel, hol, hJ, hft, hend, hturn⟩ := q₁
  have he0 : IsEnum s₁.heap e it 0 .none := h₁.mem (.head _)
  refine wpAny_pyIter_enum he0 ?_
  refine codeAny_forLoop_any (fun m s' => ∃ i L' n' old oit, m = xs.size - i ∧ i ≤ xs.size ∧ isIt "tuple_iterator" (.ref l) i oit ∧ Sta C L' ((e, enO it (i : Nat) old) :: (it, oit) :: n') s' ∧ J i L' n') ?_ xs.size ⟨0, L₁, n₃, _, oit, rfl, Nat.zero_le _, hit, h₁, hJ⟩
  rintro m s' ⟨i, L', n', old, oit, rfl, hik, hit', h', j'⟩
  have noE : ∀ (v : Value) (s : Shared), C.E v s → notedBy (model P0 C.w) C.A C.env (fun e s' => cameBackBy (model P0 C.w) C.A C.env C.E e s') v s := fun _ _ e => by rw [hE] at e; exact e.elim
  have D : Draws P0 C.w C.A.in1 it [it, l] xs.size (fun i v => xs[i]? = some v) (fun i h => h.IsTupleIter it l i ∧ h.IsTuple l xs) := drawsTup (A := C.A.in1) ok.hh it l hli xs
  have hef : e ∉ [it, l] := fun hm => by
    rcases List.mem_cons.mp hm with q | hm
    · exact hei q
    · rcases List.mem_cons.mp hm with q | hm
      · exact hel q
      · cases hm
  have hge : IsEnum s'.heap e it i old := h'.mem (.head _)
  have hgt : s'.heap.get? l = some ol := (hft _ _ _ j').cons.cons.get ok h'
  have hst : s'.heap.IsTupleIter it l i ∧ s'.heap.IsTuple l xs := ⟨⟨oit, h'.mem (.tail _ (.head _)), hit'⟩, ⟨ol, hgt, hol⟩⟩
  by_cases hlt : i < xs.size
  · refine wpAny_pyNext_enum_itemD D hge hst hlt hei hef fun x h2 tk hx ho hst2 hT hsz hk => ?_
    obtain ⟨oit2, g2, c2⟩ := hst2.1
    have hs2 := h'.chg2 (tk := tk + 1) ho g2 hT hk
    have ho' : IsEnumOut ({ s' with heap := h2, toks := tk + 1 } : Shared).heap e it ((i : Int) + 1) x s'.heap.objs.size := ho
    refine wpAny_letOwnedTupleGo_enum ho' fun h3 he3 hs3 => ?_
    have hs4 := hs2.chg (tk := tk + 1) (n' := (e, enO it ((i : Int) + 1) x) :: (it, oit2) :: (s'.heap.objs.size, _) :: n') .here he3 (fun b z hb q => (hs3.2 b hb).trans q)
    have hs5 : Sta C L' ([(e, enO it ((i : Int) + 1) x), (it, oit2)] ++ ((s'.heap.objs.size, tupOf [.int i tk, x]) :: n')) { s' with heap := h3, toks := tk + 1 } := hs4
    have T := hturn (C.hide [(e, enO it ((i : Int) + 1) x), (it, oit2)]) (C.hide_hid _) (ok.hide _) i s'.heap.objs.size tk x L' n' hlt hx j' _ hs5.hide
    refine wpAny_mono T (fun _ s₆ ⟨L₆, n₆, h₆, q₆⟩ => wpAny_mono (q₆ s₆ h₆) (fun f s₇ ⟨L₇, n₇, h₇, q₇⟩ => ?_) noE) noE
    cases f with
    | next => exact ⟨xs.size - (i + 1), by omega, i + 1, L₇, n₇, x, oit2, rfl, hlt, c2, h₇.show, q₇⟩
    | cont => exact ⟨xs.size - (i + 1), by omega, i + 1, L₇, n₇, x, oit2, rfl, hlt, c2, h₇.show, q₇⟩
    | brk => exact ⟨_, _, h₇.show.drop (List.sublist_append_right _ _), q₇⟩
    | ret v => exact ⟨_, _, h₇.show.drop (List.sublist_append_right _ _), q₇⟩
  · have q : i = xs.size := by omega
    subst q
    refine wpAny_pyNext_enum_endD D hge hst fun h2 hx => ?_
    have hs2 : Sta C L' n' { s' with heap := h2, toks := s'.toks } := ((h'.perm (List.Perm.swap _ _ _)).lose (tk := s'.toks) fun b z hb q => hx b z hb q).drop (List.sublist_cons_self _ _)
    exact wpAny_mono (hend _ _ j' _ hs2) (fun _ _ q => q) noE
end
end
-- MFm
section
set_option maxHeartbeats 0
set_option autoImplicit false
noncomputable def TabOk (t : Addr) (ps : List (Int × Str)) : Prop := ∃ (ot : Obj) (vs : List Value), (∀ P, (K P).lookup t = some ot) ∧ isTupO ot vs.toArray ∧
  All2 (fun v (p : Int × Str) => ∃ (a : Addr) (oa : Obj), v = .ref a ∧ (∀ P, (K P).lookup a = some oa) ∧ ∃ tb tc m, oa = { cls := .type "tuple", data := .seq #[.int p.1 tb, .str p.2 tc] m }) vs ps
noncomputable def fmTab : List (List (Int × Str)) := [[(40960, Str.ofString "l"), (49152, Str.ofString "s"), (32768, Str.ofString "-"), (24576, Str.ofString "b"), (16384, Str.ofString "d"), (8192, Str.ofString "c"), (4096, Str.ofString "p")], [(256, Str.ofString "r")], [(128, Str.ofString "w")], [(2112, Str.ofString "s"), (2048, Str.ofString "S"), (64, Str.ofString "x")], [(32, Str.ofString "r")], [(16, Str.ofString "w")], [(1032, Str.ofString "s"), (1024, Str.ofString "S"), (8, Str.ofString "x")], [(4, Str.ofString "r")], [(2, Str.ofString "w")], [(513, Str.ofString "t"), (512, Str.ofString "T"), (1, Str.ofString "x")]]
theorem tab800 : TabOk 800 [(40960, Str.ofString "l"), (49152, Str.ofString "s"), (32768, Str.ofString "-"), (24576, Str.ofString "b"), (16384, Str.ofString "d"), (8192, Str.ofString "c"), (4096, Str.ofString "p")] := ⟨o800, [.ref 793, .ref 794, .ref 795, .ref 796, .ref 797, .ref 798, .ref 799], fun _ => by kernel_rfl, ⟨rfl, _, rfl⟩, .cons ⟨793, o793, rfl, fun _ => by kernel_rfl, _, _, _, rfl⟩ (.cons ⟨794, o794, rfl, fun _ => by kernel_rfl, _, _, _, rfl⟩ (.cons ⟨795, o795, rfl, fun _ => by kernel_rfl, _, _, _, rfl⟩ (.cons ⟨796, o796, rfl, fun _ => by kernel_rfl, _, _, _, rfl⟩ (.cons ⟨797, o797, rfl, fun _ => by kernel_rfl, _, _, _, rfl⟩ (.cons ⟨798, o798, rfl, fun _ => by kernel_rfl, _, _, _, rfl⟩ (.cons ⟨799, o799, rfl, fun _ => by kernel_rfl, _, _, _, rfl⟩ (.nil)))))))⟩
theorem tab802 : TabOk 802 [(256, Str.ofString "r")] := ⟨o802, [.ref 801], fun _ => by kernel_rfl, ⟨rfl, _, rfl⟩, .cons ⟨801, o801, rfl, fun _ => by kernel_rfl, _, _, _, rfl⟩ (.nil)⟩
theorem tab804 : TabOk 804 [(128, Str.ofString "w")] := ⟨o804, [.ref 803], fun _ => by kernel_rfl, ⟨rfl, _, rfl⟩, .cons ⟨803, o803, rfl, fun _ => by kernel_rfl, _, _, _, rfl⟩ (.nil)⟩
theorem tab808 : TabOk 808 [(2112, Str.ofString "s"), (2048, Str.ofString "S"), (64, Str.ofString "x")] := ⟨o808, [.ref 805, .ref 806, .ref 807], fun _ => by kernel_rfl, ⟨rfl, _, rfl⟩, .cons ⟨805, o805, rfl, fun _ => by kernel_rfl, _, _, _, rfl⟩ (.cons ⟨806, o806, rfl, fun _ => by kernel_rfl, _, _, _, rfl⟩ (.cons ⟨807, o807, rfl, fun _ => by kernel_rfl, _, _, _, rfl⟩ (.nil)))⟩
theorem tab810 : TabOk 810 [(32, Str.ofString "r")] := ⟨o810, [.ref 809], fun _ => by kernel_rfl, ⟨rfl, _, rfl⟩, .cons ⟨809, o809, rfl, fun _ => by kernel_rfl, _, _, _, rfl⟩ (.nil)⟩
theorem tab812 : TabOk 812 [(16, Str.ofString "w")] := ⟨o812, [.ref 811], fun _ => by kernel_rfl, ⟨rfl, _, rfl⟩, .cons ⟨811, o811, rfl, fun _ => by kernel_rfl, _, _, _, rfl⟩ (.nil)⟩
theorem tab816 : TabOk 816 [(1032, Str.ofString "s"), (1024, Str.ofString "S"), (8, Str.ofString "x")] := ⟨o816, [.ref 813, .ref 814, .ref 815], fun _ => by kernel_rfl, ⟨rfl, _, rfl⟩, .cons ⟨813, o813, rfl, fun _ => by kernel_rfl, _, _, _, rfl⟩ (.cons ⟨814, o814, rfl, fun _ => by kernel_rfl, _, _, _, rfl⟩ (.cons ⟨815, o815, rfl, fun _ => by kernel_rfl, _, _, _, rfl⟩ (.nil)))⟩
theorem tab818 : TabOk 818 [(4, Str.ofString "r")] := ⟨o818, [.ref 817], fun _ => by kernel_rfl, ⟨rfl, _, rfl⟩, .cons ⟨817, o817, rfl, fun _ => by kernel_rfl, _, _, _, rfl⟩ (.nil)⟩
theorem tab820 : TabOk 820 [(2, Str.ofString "w")] := ⟨o820, [.ref 819], fun _ => by kernel_rfl, ⟨rfl, _, rfl⟩, .cons ⟨819, o819, rfl, fun _ => by kernel_rfl, _, _, _, rfl⟩ (.nil)⟩
theorem tab824 : TabOk 824 [(513, Str.ofString "t"), (512, Str.ofString "T"), (1, Str.ofString "x")] := ⟨o824, [.ref 821, .ref 822, .ref 823], fun _ => by kernel_rfl, ⟨rfl, _, rfl⟩, .cons ⟨821, o821, rfl, fun _ => by kernel_rfl, _, _, _, rfl⟩ (.cons ⟨822, o822, rfl, fun _ => by kernel_rfl, _, _, _, rfl⟩ (.cons ⟨823, o823, rfl, fun _ => by kernel_rfl, _, _, _, rfl⟩ (.nil)))⟩
theorem tabAll : All2 (fun (v : Value) ps => ∃ t, v = .ref t ∧ TabOk t ps) [.ref 800, .ref 802, .ref 804, .ref 808, .ref 810, .ref 812, .ref 816, .ref 818, .ref 820, .ref 824] fmTab := .cons ⟨800, rfl, tab800⟩ (.cons ⟨802, rfl, tab802⟩ (.cons ⟨804, rfl, tab804⟩ (.cons ⟨808, rfl, tab808⟩ (.cons ⟨810, rfl, tab810⟩ (.cons ⟨812, rfl, tab812⟩ (.cons ⟨816, rfl, tab816⟩ (.cons ⟨818, rfl, tab818⟩ (.cons ⟨820, rfl, tab820⟩ (.cons ⟨824, rfl, tab824⟩ (.nil))))))))))

noncomputable def mt (mode : Int) (i : Nat) (b : Int) : Bool := if i = 0 then Builtin.bitAnd mode 61440 == b else Builtin.bitAnd mode b == b
noncomputable def fmC (mode : Int) (i : Nat) (ps : List (Int × Str)) : Str := ((ps.find? fun p => mt mode i p.1).map (·.2)).getD (if i = 0 then Str.ofString "?" else Str.ofString "-")
noncomputable def fmL (mode : Int) (k : Nat) : List Str := (List.range k).map fun j => fmC mode j (fmTab.getD j [])
section
variable {C : Cx} {L : Loc} {n : Led} {Q : Value → Loc → Led → Prop} {QF : Flow → Loc → Led → Prop}
noncomputable def fmFor : Stmt := match (bodyOf (stAt 55)).drop 1 with | s :: _ => s | [] => .Pass default
noncomputable def fmIn : Stmt := match fmFor with | .For _ _ (s :: _) _ _ => s | _ => .Pass default
theorem fmInner {mode : Int} {tm ti : Tok} {Pm t : Addr} {i : Nat} {acc : List Value} {kk : Nat} {r : Led} {b c : Option Value} {ps : List (Int × Str)} (ok : Ok C) (hE : C.E = fun _ _ => False) (hr : C.A.depth < 890) (hf : C.fn = f832) (hT : TabOk t ps) (hal : acc.length ≤ 20) (hpl : ps.length ≤ 20)
    (h : ∀ b c k' n' tc, QF .next [some (.int mode tm), some (.ref Pm), some (.int i ti), some (.ref t), b, c] ((Pm, listOf (List.toArray (acc ++ [Value.str (fmC mode i ps) tc])) k') :: (n' ++ r))) :
    W C (exec fmIn C.env) [some (.int mode tm), some (.ref Pm), some (.int i ti), some (.ref t), b, c] ((Pm, listOf acc.toArray kk) :: r) QF := by
  have hns : C.fn.ns = [Str.ofString "mode", Str.ofString "perm", Str.ofString "index", Str.ofString "table", Str.ofString "bit", Str.ofString "char"] := congrArg Fn.ns hf
  have hgn : C.fn.gns = f832.gns := congrArg Fn.gns hf
  obtain ⟨ot, vs, hot, htu, hall⟩ := hT
  have hvl : vs.length = ps.length := hall.len
  conv => arg 2; arg 1; whnf
  refine W.forI ok hE ?_
  walk_at "WS"
  refine W.iterT ok (.inr (hot _)) htu fun I o ho It => ?_
  refine ⟨I, _, _, _, _, fun j L n2 => ∃ b c n', L = [some (.int mode tm), some (.ref Pm), some (.int i ti), some (.ref t), b, c] ∧ n2 = (Pm, listOf acc.toArray kk) :: (n' ++ r) ∧ (ps.take j).find? (fun p => mt mode i p.1) = none, [(I, o)], _, rfl, rfl, It, ⟨o, rfl, ho⟩, ⟨_, _, [], rfl, rfl, rfl⟩, fun _ _ _ _ => .inr (hot _), ?_, ?_⟩
  · rintro L2 n2 ⟨b, c, n', rfl, rfl, hnone⟩
    rw [List.size_toArray, hvl, List.take_length] at hnone
    have e : fmC mode i ps = (if i = 0 then Str.ofString "?" else Str.ofString "-") := by unfold fmC; rw [hnone]; rfl
    walk_at "WS"
    by_cases q : i = 0
    · refine iteT (by rw [q]; rfl) ?_
      walk_at "WS"
      refine W.getAppend (.head _) ?_
      refine W.cbm ?_
      walk_at "WS"
      refine W.append (N := fun o => (Pm, o) :: (n' ++ r)) (fun _ => .here) (by rw [List.size_toArray]; unfold sizeLine; omega) fun k5 => ?_
      walk_at "WS"
      rename_i tq
      have := h b c k5 n' tq
      rw [e, if_pos q, ← List.push_toArray] at this
      exact this
    · refine iteF (by simpa using q) ?_
      walk_at "WS"
      refine W.getAppend (.head _) ?_
      refine W.cbm ?_
      walk_at "WS"
      refine W.append (N := fun o => (Pm, o) :: (n' ++ r)) (fun _ => .here) (by rw [List.size_toArray]; unfold sizeLine; omega) fun k5 => ?_
      walk_at "WS"
      rename_i tq
      have := h b c k5 n' tq
      rw [e, if_neg q, ← List.push_toArray] at this
      exact this
  · rintro C2 hid ok2 j v qq L2 n2 hj ⟨rfl, hv⟩ ⟨b, c, n', rfl, rfl, hnone⟩
    have hns2 : C2.fn.ns = [Str.ofString "mode", Str.ofString "perm", Str.ofString "index", Str.ofString "table", Str.ofString "bit", Str.ofString "char"] := (congrArg Fn.ns hid.fn).trans hns
    have hgn2 : C2.fn.gns = f832.gns := (congrArg Fn.gns hid.fn).trans hgn
    have hr2 : C2.A.depth < 890 := by rw [hid.A]; exact hr
    have hv' : vs[j]? = some v := by simpa using hv
    obtain ⟨p, hp, a, oa, rfl, hoa, tb, tc, m, rfl⟩ := hall.get hv'
    have et : ps.take (j + 1) = ps.take j ++ [p] := by rw [List.take_add_one, hp]; rfl
    have ec : mt mode i p.1 = true → fmC mode i ps = p.2 := fun q => by
      have : ps.find? (fun p => mt mode i p.1) = some p := by
        have e2 : ps = ps.take j ++ p :: ps.drop (j + 1) := by
          have e3 := List.take_append_drop (j + 1) ps
          rw [et, List.append_assoc] at e3
          exact e3.symm
        rw [e2, List.find?_append, hnone]
        simp [q]
      unfold fmC; rw [this]; rfl
    refine W.asgT ok2 (.inr (hoa _)) ⟨rfl, _, rfl⟩ ?_
    refine W.aioN ?_
    walk_at "WS"
    refine W.aioN ?_
    walk_at "WS"
    refine W.aioE ?_
    walk_at "WS"
    by_cases q : i = 0
    · refine iteT (by rw [q]; rfl) ?_
      walk_at "WS"
      refine W.gl ok2 hgn2 (by walk_at "MEM") (gt_S_IFMT ok2) ?_
      refine W.cw ok2 (fo792.keep _) ?_
      walk_at "WS"
      refine s792 ok2 (by omega) fun t5 => ?_
      walk_at "WS"
      cases q2 : mt mode i p.1 with
      | true =>
        refine iteT (by unfold mt at q2; rw [if_pos q] at q2; exact q2) ?_
        walk_at "WS"
        refine W.getAppend (.head _) ?_
        refine W.cbm ?_
        walk_at "WS"
        refine W.append (N := fun o => (Pm, o) :: (n' ++ r)) (fun _ => .here) (by rw [List.size_toArray]; unfold sizeLine; omega) fun k5 => ?_
        walk_at "WS"
        have := h (some (.int p.1 tb)) (some (.str p.2 tc)) k5 n' tc
        rw [ec q2, ← List.push_toArray] at this
        exact this
      | false =>
        refine iteF (by unfold mt at q2; rw [if_pos q] at q2; exact q2) ?_
        walk_at "WS"
        refine ⟨_, _, n', rfl, rfl, ?_⟩
        rw [et, List.find?_append, hnone]
        simp [q2]
    · refine iteF (by simpa using q) ?_
      walk_at "WS"
      cases q2 : mt mode i p.1 with
      | true =>
        refine iteT (by unfold mt at q2; rw [if_neg q] at q2; exact q2) ?_
        walk_at "WS"
        refine W.getAppend (.head _) ?_
        refine W.cbm ?_
        walk_at "WS"
        refine W.append (N := fun o => (Pm, o) :: (n' ++ r)) (fun _ => .here) (by rw [List.size_toArray]; unfold sizeLine; omega) fun k5 => ?_
        walk_at "WS"
        have := h (some (.int p.1 tb)) (some (.str p.2 tc)) k5 n' tc
        rw [ec q2, ← List.push_toArray] at this
        exact this
      | false =>
        refine iteF (by unfold mt at q2; rw [if_neg q] at q2; exact q2) ?_
        walk_at "WS"
        refine ⟨_, _, n', rfl, rfl, ?_⟩
        rw [et, List.find?_append, hnone]
        simp [q2]
theorem fm_len (mode : Int) (k : Nat) : (fmL mode k).length = k := by simp [fmL]
theorem fm_succ (mode : Int) (k : Nat) : fmL mode (k + 1) = fmL mode k ++ [fmC mode k (fmTab.getD k [])] := by unfold fmL; rw [List.range_succ, List.map_append]; rfl
theorem fmTab_lens : ∀ ps ∈ fmTab, ps.length ≤ 20 ∧ ∀ p ∈ ps, p.2.length = 1 := by decide +kernel
theorem fmC_len (mode : Int) (i : Nat) {ps : List (Int × Str)} (h : ∀ p ∈ ps, p.2.length = 1) : (fmC mode i ps).length = 1 := by
  unfold fmC
  cases q : ps.find? fun p => mt mode i p.1 with
  | some p => exact h p (List.mem_of_find?_eq_some q)
  | none => show (if i = 0 then Str.ofString "?" else Str.ofString "-").length = 1; split <;> decide +kernel
theorem fmL_lens (mode : Int) : ∀ x ∈ fmL mode 10, x.length = 1 := by
  intro x hx
  obtain ⟨j, hj, rfl⟩ := List.mem_map.mp hx
  refine fmC_len mode j fun p hp => ?_
  have hj' : j < fmTab.length := List.mem_range.mp hj
  have : fmTab.getD j [] ∈ fmTab := by rw [List.getD_eq_getElem?_getD, List.getElem?_eq_getElem hj']; exact List.getElem_mem hj'
  exact (fmTab_lens _ this).2 p hp
theorem sum_ones {l : List Nat} (h : ∀ x ∈ l, x = 1) : l.sum = l.length := by
  induction l with
  | nil => rfl
  | cons a l ih => rw [List.sum_cons, List.length_cons, ih fun x hx => h x (.tail _ hx), h a (.head _)]; omega
theorem s832 {mode : Int} {tm : Tok} (ok : Ok C) (hr : C.A.depth < 880) (h : ∀ n' t, Q (.str (Txt.join (Str.ofString "") (fmL mode 10)) t) L (n' ++ n)) : W C (call (.ref 832) [.int mode tm]) L n Q := by
  refine W.cf (f := f832) [some (.int mode tm), none, none, none, none, none] ok fo832 (by show _ < 1000; omega) (by kernel_rfl) rfl fun C' ok' hf hw hdd hu => ?_
  have hns : C'.fn.ns = [Str.ofString "mode", Str.ofString "perm", Str.ofString "index", Str.ofString "table", Str.ofString "bit", Str.ofString "char"] := congrArg Fn.ns hf
  have hgn : C'.fn.gns = f832.gns := congrArg Fn.gns hf
  conv => arg 2; arg 1; whnf
  walk_at "WS"
  rename_i Pm
  have h825 : ∀ P, (K P).lookup 825 = some o825 := fun _ => by kernel_rfl
  refine W.forEnum ok' hu ?_
  walk_at "WS"
  walk_at "BL"
  walk_at "WS"
  refine W.gl ok' hgn (by walk_at "MEM") (gt_ufilemode_table ok') ?_
  walk_at "WS"
  refine W.enumT (xs := #[.ref 800, .ref 802, .ref 804, .ref 808, .ref 810, .ref 812, .ref 816, .ref 818, .ref 820, .ref 824]) (m := 0) ok' (.inr (h825 _)) fun e it oit hit h1 h2 h3 => ?_
  refine ⟨e, it, 825, oit, o825, #[.ref 800, .ref 802, .ref 804, .ref 808, .ref 810, .ref 812, .ref 816, .ref 818, .ref 820, .ref 824], fun i L n2 => ∃ acc k n' a b c d, L = [some (.int mode tm), some (.ref Pm), a, b, c, d] ∧ n2 = (Pm, listOf (List.toArray acc) k) :: (n' ++ n) ∧ StrsAre acc (fmL mode i), _, rfl, rfl, hit, h1, h2, h3, ⟨rfl, _, rfl⟩, ⟨[], 0, [], _, _, _, _, rfl, rfl, .nil⟩, fun _ _ _ _ => .inr (h825 _), ?_, ?_⟩
  · rintro L2 n2 ⟨acc, k, n', a, b, c, d, rfl, rfl, hacc⟩
    walk_at "WS"
    with_reducible refine W.getJoin ?_
    refine W.cbm ?_
    walk_at "WS"
    refine W.joinL (.head _) (by simpa using hacc) ?_ fun t => ?_
    · show ((fmL mode 10).map (·.length)).sum + (fmL mode 10).length * (Str.ofString "").length ≤ 16777216
      rw [sum_ones (fun x hx => by obtain ⟨y, hy, rfl⟩ := List.mem_map.mp hx; exact fmL_lens mode y hy), List.length_map, fm_len]
      decide +kernel
    · walk_at "WS"
      exact h ((Pm, listOf (List.toArray acc) k) :: n') t
  · rintro C2 hid ok2 i T t v L2 n2 hi hv ⟨acc, k, n', a, b, c, d, rfl, rfl, hacc⟩
    have hf2 : C2.fn = f832 := hid.fn.trans hf
    have hns2 : C2.fn.ns = [Str.ofString "mode", Str.ofString "perm", Str.ofString "index", Str.ofString "table", Str.ofString "bit", Str.ofString "char"] := congrArg Fn.ns hf2
    have hi10 : i < 10 := hi
    have hv' : ([.ref 800, .ref 802, .ref 804, .ref 808, .ref 810, .ref 812, .ref 816, .ref 818, .ref 820, .ref 824] : List Value)[i]? = some v := by simpa using hv
    obtain ⟨ps, hps, tt, rfl, hT⟩ := tabAll.get hv'
    have hgd : fmTab.getD i [] = ps := by rw [List.getD_eq_getElem?_getD, hps]; rfl
    have hal : acc.length = i := by rw [hacc.length, fm_len]
    refine W.asgT ok2 (.inl (.head _)) ⟨rfl, _, rfl⟩ ?_
    refine W.aioN ?_
    walk_at "WS"
    refine W.aioN ?_
    walk_at "WS"
    refine W.aioE ?_
    refine W.cons ?_
    refine W.perm (List.Perm.swap _ _ _) ?_
    refine fmInner (acc := acc) (kk := k) (ps := ps) ok2 (hid.E.trans hu) (by rw [hid.A]; omega) hf2 hT (by omega) ((fmTab_lens ps (List.mem_of_getElem? hps)).1) fun b' c' k' n5 tc => ?_
    walk_at "WS"
    refine ⟨acc ++ [.str (fmC mode i ps) tc], k', n5 ++ ((T, tupOf [.int i t, .ref tt]) :: n'), _, _, _, _, rfl, ?_, ?_⟩
    · simp only [List.append_assoc, List.cons_append]
    · rw [fm_succ, hgd]; exact strsSnoc hacc
end
end
-- MP2
section
set_option maxHeartbeats 0
set_option autoImplicit false
theorem bit_nat (m b : Nat) : bitOn (m : Int) b = m.testBit b := by
  unfold bitOn
  have e1 : (m : Int).fdiv ((2 : Int) ^ b) = ((m / 2 ^ b : Nat) : Int) := by
    rw [Int.fdiv_eq_ediv_of_nonneg _ (Int.le_of_lt (Int.pow_pos (by decide)))]
    rw [Int.natCast_ediv]
    simp
  rw [e1, Nat.testBit_eq_decide_div_mod_eq]
  have e2 : (((m / 2 ^ b : Nat) : Int)).fmod 2 = ((m / 2 ^ b % 2 : Nat) : Int) := by
    rw [Int.fmod_eq_emod_of_nonneg _ (by decide)]
    omega
  rw [e2]
  by_cases h : m / 2 ^ b % 2 = 1
  · rw [h]; rfl
  · have : ¬ (((m / 2 ^ b % 2 : Nat) : Int) = 1) := by omega
    rw [decide_eq_false h]
    exact beq_eq_false_iff_ne.mpr this
theorem hi_mask {h : Nat} (hh : h < 65536) : h &&& 61440 = 4096 * (h / 4096) := by
  apply Nat.eq_of_testBit_eq
  intro j
  have e : (61440 : Nat) = 2 ^ 12 * (2 ^ 4 - 1) := by decide
  rw [Nat.testBit_and, e, Nat.testBit_two_pow_mul, Nat.testBit_two_pow_sub_one, show (4096 : Nat) = 2 ^ 12 by decide, Nat.testBit_two_pow_mul, Nat.testBit_div_two_pow]
  by_cases h1 : 12 ≤ j
  · have e2 : j - 12 + 12 = j := by omega
    rw [e2]
    by_cases h2 : j - 12 < 4
    · simp [h1, h2]
    · have h3 : h.testBit j = false := Nat.testBit_lt_two_pow (Nat.lt_of_lt_of_le hh (by
        have : (65536 : Nat) = 2 ^ 16 := by decide
        rw [this]; exact Nat.pow_le_pow_right (by decide) (by omega)))
      simp [h3]
  · simp [h1]
/-- the step on naturals -/
noncomputable def stepN (fit plus : Bool) (mask h : Nat) : Nat := if fit then (if plus then h ||| mask else (h &&& 61440) + ((h &&& 4095) &&& (4095 - mask))) else h
theorem stepN_bit {fit plus : Bool} {mask h b : Nat} (hm : mask < 4096) (hh : h < 65536) (hb : b < 12) : (stepN fit plus mask h).testBit b = if fit && mask.testBit b then plus else h.testBit b := by
  unfold stepN
  cases fit with
  | false => simp
  | true =>
    simp only [if_true, Bool.true_and]
    cases plus with
    | true =>
      rw [if_pos rfl, Nat.testBit_or]
      cases mask.testBit b <;> simp
    | false =>
      rw [if_neg (by decide), hi_mask hh]
      have e4 : (4095 : Nat) - mask = 2 ^ 12 - (mask + 1) := by omega
      have lt : (h &&& 4095) &&& (4095 - mask) < 2 ^ 12 := Nat.lt_of_le_of_lt Nat.and_le_left (Nat.lt_of_le_of_lt Nat.and_le_right (by decide))
      rw [show (4096 : Nat) = 2 ^ 12 by decide, Nat.testBit_two_pow_mul_add _ lt, if_pos hb, Nat.testBit_and, Nat.testBit_and, e4, Nat.testBit_two_pow_sub_succ hm, show (4095 : Nat) = 2 ^ 12 - 1 by decide, Nat.testBit_two_pow_sub_one]
      cases mask.testBit b <;> simp [hb]
theorem stepN_hi {fit plus : Bool} {mask h : Nat} (hm : mask < 4096) (hh : h < 65536) : stepN fit plus mask h / 4096 = h / 4096 := by
  unfold stepN
  cases fit with
  | false => simp
  | true =>
    simp only [if_true]
    cases plus with
    | true =>
      rw [if_pos rfl]
      apply Nat.eq_of_testBit_eq
      intro j
      rw [show (4096 : Nat) = 2 ^ 12 by decide, Nat.testBit_div_two_pow, Nat.testBit_div_two_pow, Nat.testBit_or]
      have : mask.testBit (j + 12) = false := Nat.testBit_lt_two_pow (Nat.lt_of_lt_of_le hm (by
        have : (4096 : Nat) = 2 ^ 12 := by decide
        rw [this]; exact Nat.pow_le_pow_right (by decide) (by omega)))
      rw [this, Bool.or_false]
    | false =>
      rw [if_neg (by decide), hi_mask hh]
      have lt : (h &&& 4095) &&& (4095 - mask) < 4096 := Nat.lt_of_le_of_lt Nat.and_le_left (Nat.lt_of_le_of_lt Nat.and_le_right (by decide))
      omega
theorem stepN_lt {fit plus : Bool} {mask h : Nat} (hm : mask < 4096) (hh : h < 65536) : stepN fit plus mask h < 65536 := by
  have := stepN_hi (fit := fit) (plus := plus) hm hh
  omega
theorem and_nat (a b : Nat) : Builtin.bitAnd (a : Int) (b : Int) = ((a &&& b : Nat) : Int) := by rw [bitAnd_pp (by omega) (by omega)]; simp
theorem or_nat (a b : Nat) : Builtin.bitOr (a : Int) (b : Int) = ((a ||| b : Nat) : Int) := by
  rw [bitOr_and, and_nat]
  have := nat_or_add_and a b
  omega
theorem step_nat {hl : String} {h : Nat} {r : Rule} (hr : RuleOk r) : stepI hl (h : Int) r = ((stepN (udm hl (zlow.getD r.place "")) r.plus r.mask h : Nat) : Int) := by
  unfold stepI stepN
  split
  · split
    · exact or_nat _ _
    · have hm := hr.mask
      have e0 : ((4095 : Int) - (r.mask : Int)) = ((4095 - r.mask : Nat) : Int) := by omega
      have e1 : Builtin.bitAnd (h : Int) 61440 = ((h &&& 61440 : Nat) : Int) := and_nat h 61440
      have e2 : Builtin.bitAnd (h : Int) 4095 = ((h &&& 4095 : Nat) : Int) := and_nat h 4095
      rw [e0, e1, e2, and_nat]
      rfl
  · rfl
noncomputable def fitsN (hl : String) (rs : List Rule) : List Rule := rs.filter fun r => udm hl (zlow.getD r.place "")
noncomputable def giv (d : Bool) (fs : List Rule) (b : Nat) : Bool := ((fs.filter fun r => r.mask.testBit b).getLast?.map (·.plus)).getD d
theorem giv_cons (d : Bool) (r : Rule) (fs : List Rule) (b : Nat) : giv d (r :: fs) b = giv (if r.mask.testBit b then r.plus else d) fs b := by
  unfold giv
  rw [List.filter_cons]
  split
  · rw [List.getLast?_cons]
    cases (fs.filter fun r => r.mask.testBit b).getLast? <;> rfl
  · rfl
theorem led_all {hl : String} : ∀ (rs : List Rule) (h : Nat), (∀ r ∈ rs, RuleOk r) → h < 65536 → ∃ m : Nat, ledI hl (h : Int) rs = (m : Int) ∧ m < 65536 ∧ m / 4096 = h / 4096 ∧ ∀ b, b < 12 → m.testBit b = giv (h.testBit b) (fitsN hl rs) b
  | [], h, _, hh => ⟨h, rfl, hh, rfl, fun _ _ => rfl⟩
  | r :: rs, h, hok, hh => by
    have hr := hok r (.head _)
    obtain ⟨m, e1, e2, e3, e4⟩ := led_all rs (stepN (udm hl (zlow.getD r.place "")) r.plus r.mask h) (fun x hx => hok x (.tail _ hx)) (stepN_lt hr.mask hh)
    refine ⟨m, ?_, e2, e3.trans (stepN_hi hr.mask hh), fun b hb => ?_⟩
    · show ledI hl (stepI hl (h : Int) r) rs = _
      rw [step_nat hr]; exact e1
    · rw [e4 b hb, stepN_bit hr.mask hh hb]
      unfold fitsN
      rw [List.filter_cons]
      cases q : udm hl (zlow.getD r.place "") with
      | true => rw [if_pos rfl, giv_cons]; rfl
      | false => rfl
theorem giv_any {fs : List Rule} {b : Nat} {j : Rule} (hj : j ∈ fs) (hb : j.mask.testBit b = true) (d e : Bool) : giv d fs b = giv e fs b := by
  unfold giv
  cases q : (fs.filter fun r => r.mask.testBit b).getLast? with
  | some x => rfl
  | none =>
    have := List.getLast?_eq_none_iff.mp q
    have hm : j ∈ fs.filter fun r => r.mask.testBit b := List.mem_filter.mpr ⟨hj, hb⟩
    rw [this] at hm; cases hm
noncomputable def hostLow : List String := ["a.b", "x.it's.b", "a.7", "b", "it's.b", "x.a.b"]
theorem udm_trans : ∀ hl ∈ hostLow, ∀ p q : _root_.Fin 8, udm (zlow.getD p "") (zlow.getD q "") = true → udm hl (zlow.getD p "") = true → udm hl (zlow.getD q "") = true := by decide +kernel
theorem cov_bits {r j : Rule} (h : covR r j = true) (b : Nat) (hb : r.mask.testBit b = true) : j.mask.testBit b = true := by
  unfold covR at h
  rw [Bool.and_eq_true] at h
  have h1 := h.1
  rw [and_nat] at h1
  have h2 : j.mask &&& r.mask = r.mask := by have := beq_iff_eq.mp h1; omega
  have h3 := congrArg (fun x => Nat.testBit x b) h2
  simp only [Nat.testBit_and, hb, Bool.and_true] at h3
  exact h3
theorem giv_short {hl : String} (hh : hl ∈ hostLow) (b : Nat) : ∀ (rs : List Rule) (d : Bool), (∀ r ∈ rs, RuleOk r) → giv d (fitsN hl (shortR rs)) b = giv d (fitsN hl rs) b
  | [], d, _ => rfl
  | r :: rs, d, hok => by
    have ih := fun d => giv_short hh b rs d fun x hx => hok x (.tail _ hx)
    have hr := hok r (.head _)
    have ef : fitsN hl (r :: rs) = if udm hl (zlow.getD r.place "") then r :: fitsN hl rs else fitsN hl rs := by
      unfold fitsN; rw [List.filter_cons]
    show giv d (fitsN hl (if rs.any (covR r) then shortR rs else r :: shortR rs)) b = _
    cases q : rs.any (covR r) with
    | false =>
      rw [if_neg (by decide)]
      have ef2 : fitsN hl (r :: shortR rs) = if udm hl (zlow.getD r.place "") then r :: fitsN hl (shortR rs) else fitsN hl (shortR rs) := by
        unfold fitsN; rw [List.filter_cons]
      rw [ef, ef2]
      cases udm hl (zlow.getD r.place "") with
      | true => rw [if_pos rfl, if_pos rfl, giv_cons, giv_cons, ih]
      | false => rw [if_neg (by decide), if_neg (by decide), ih]
    | true =>
      rw [if_pos rfl, ih, ef]
      cases qu : udm hl (zlow.getD r.place "") with
      | false => rw [if_neg (by decide)]
      | true =>
        rw [if_pos rfl, giv_cons]
        cases qb : r.mask.testBit b with
        | false => rfl
        | true =>
          obtain ⟨j, hj, hc⟩ := List.any_eq_true.mp q
          have hjb := cov_bits hc b qb
          have hju : udm hl (zlow.getD j.place "") = true := by
            unfold covR at hc
            rw [Bool.and_eq_true] at hc
            exact udm_trans hl hh ⟨r.place, hr.place⟩ ⟨j.place, (hok j (.tail _ hj)).place⟩ hc.2 qu
          exact giv_any (List.mem_filter.mpr ⟨hj, hju⟩) hjb _ _
theorem short_ok {rs : List Rule} (h : ∀ r ∈ rs, RuleOk r) : ∀ r ∈ shortR rs, RuleOk r := by
  induction rs with
  | nil => exact h
  | cons r rs ih =>
    intro x hx
    have hx : x ∈ (if rs.any (covR r) then shortR rs else r :: shortR rs) := hx
    split at hx
    · exact ih (fun y hy => h y (.tail _ hy)) x hx
    · cases hx with
      | head => exact h r (.head _)
      | tail _ hx => exact ih (fun y hy => h y (.tail _ hy)) x hx
theorem nat_eq_bits {x y : Nat} (hd : x / 4096 = y / 4096) (hb : ∀ b, b < 12 → x.testBit b = y.testBit b) : x = y := by
  have e : x % 4096 = y % 4096 := by
    apply Nat.eq_of_testBit_eq
    intro j
    rw [show (4096 : Nat) = 2 ^ 12 by decide, Nat.testBit_mod_two_pow, Nat.testBit_mod_two_pow]
    by_cases h : j < 12
    · rw [hb j h]
    · simp [h]
  omega
theorem led_short {hl : String} {rs : List Rule} {h : Nat} (hh : hl ∈ hostLow) (hok : ∀ r ∈ rs, RuleOk r) (h16 : h < 65536) : ledI hl (h : Int) (shortR rs) = ledI hl (h : Int) rs := by
  obtain ⟨m1, a1, a2, a3, a4⟩ := led_all (hl := hl) (shortR rs) h (short_ok hok) h16
  obtain ⟨m2, b1, b2, b3, b4⟩ := led_all (hl := hl) rs h hok h16
  rw [a1, b1, nat_eq_bits (a3.trans b3.symm) fun b hb => by rw [a4 b hb, b4 b hb, giv_short hh b rs _ hok]]
end
-- MP3
section
set_option maxHeartbeats 0
set_option autoImplicit false
theorem zone_host : ∀ i : _root_.Fin 6, ∀ p : _root_.Fin 8, lawH (hostL.getD i []) (zoneL.getD p (false, [])) = udm (hostLow.getD i "") (zlow.getD p "") := by decide +kernel
theorem fits_eq (i : _root_.Fin 6) {rs : List Rule} (hok : ∀ r ∈ rs, RuleOk r) : fitsR (hostL.getD i []) rs = fitsN (hostLow.getD i "") rs := by
  unfold fitsR fitsN
  exact List.filter_congr fun r hr => zone_host i ⟨r.place, (hok r hr).place⟩
theorem givB_eq (h : Nat) (fs : List Rule) (b : Nat) : givB (h : Int) fs b = giv (h.testBit b) fs b := by
  unfold givB giv
  rw [bit_nat]
  have : (fun r : Rule => bitOn (r.mask : Int) b) = fun r => r.mask.testBit b := funext fun r => bit_nat r.mask b
  rw [this]
theorem and_eq_iff (m x : Nat) : (Builtin.bitAnd (m : Int) (x : Int) == (x : Int)) = decide (m &&& x = x) := by
  rw [and_nat]
  by_cases h : m &&& x = x
  · rw [h, decide_eq_true rfl]; simp
  · rw [decide_eq_false h]
    exact beq_eq_false_iff_ne.mpr fun e => h (by omega)
theorem mt_one {m i k : Nat} (hi : i ≠ 0) : mt (m : Int) i ((2 ^ k : Nat) : Int) = m.testBit k := by
  unfold mt
  rw [if_neg hi, and_eq_iff]
  cases q : m.testBit k with
  | true =>
    refine decide_eq_true (Nat.eq_of_testBit_eq fun j => ?_)
    rw [Nat.testBit_and, Nat.testBit_two_pow]
    by_cases h : k = j
    · subst h; simp [q]
    · simp [h]
  | false =>
    refine decide_eq_false fun e => ?_
    have := congrArg (fun z => Nat.testBit z k) e
    simp only [Nat.testBit_and, Nat.testBit_two_pow, q] at this
    simp at this
theorem mt_two {m i k l : Nat} (hi : i ≠ 0) : mt (m : Int) i ((2 ^ k ||| 2 ^ l : Nat) : Int) = (m.testBit k && m.testBit l) := by
  unfold mt
  rw [if_neg hi, and_eq_iff]
  cases q : (m.testBit k && m.testBit l) with
  | true =>
    rw [Bool.and_eq_true] at q
    refine decide_eq_true (Nat.eq_of_testBit_eq fun j => ?_)
    rw [Nat.testBit_and, Nat.testBit_or, Nat.testBit_two_pow, Nat.testBit_two_pow]
    by_cases h : k = j
    · subst h; simp [q.1]
    · by_cases h2 : l = j
      · subst h2; simp [q.2]
      · simp [h, h2]
  | false =>
    refine decide_eq_false fun e => ?_
    have e1 := congrArg (fun z => Nat.testBit z k) e
    have e2 := congrArg (fun z => Nat.testBit z l) e
    simp only [Nat.testBit_and, Nat.testBit_or, Nat.testBit_two_pow] at e1 e2
    simp at e1 e2
    rw [e1, e2] at q
    cases q
theorem fmC_one {m i k : Nat} {c : Str} {b : Int} (hi : i ≠ 0) (hb : b = ((2 ^ k : Nat) : Int)) : fmC (m : Int) i [(b, c)] = if m.testBit k then c else Str.ofString "-" := by
  unfold fmC
  rw [if_neg hi, hb]
  simp only [List.find?_cons, mt_one hi, List.find?_nil]
  cases m.testBit k <;> rfl
theorem fmC_three {m i k l : Nat} {s S x : Str} {b1 b2 b3 : Int} (hi : i ≠ 0) (h1 : b1 = ((2 ^ k ||| 2 ^ l : Nat) : Int)) (h2 : b2 = ((2 ^ k : Nat) : Int)) (h3 : b3 = ((2 ^ l : Nat) : Int)) :
    fmC (m : Int) i [(b1, s), (b2, S), (b3, x)] = if !m.testBit k then (if m.testBit l then x else Str.ofString "-") else (if m.testBit l then s else S) := by
  unfold fmC
  rw [if_neg hi, h1, h2, h3]
  simp only [List.find?_cons, mt_one hi, mt_two hi, List.find?_nil]
  cases m.testBit k <;> cases m.testBit l <;> rfl
theorem fm_kind {m h : Nat} (hm : m < 65536) (hd : m / 4096 = h / 4096) : fmC (m : Int) 0 (fmTab.getD 0 []) = kindS (h : Int) := by
  have e : Builtin.bitAnd (m : Int) 61440 = ((4096 * (m / 4096) : Nat) : Int) := (and_nat m 61440).trans (by rw [hi_mask hm])
  have ek : (h : Int).fdiv 4096 = ((m / 4096 : Nat) : Int) := by
    rw [Int.fdiv_eq_ediv_of_nonneg _ (by decide), hd]; omega
  have hk : m / 4096 < 16 := by omega
  unfold fmC kindS
  have ef : (fun p : Int × Str => mt (m : Int) 0 p.1) = fun p => ((4096 * (m / 4096) : Nat) : Int) == p.1 := funext fun p => by unfold mt; rw [if_pos rfl, e]
  rw [ef, ek]
  have key : ∀ k : _root_.Fin 16, (((fmTab.getD 0 []).find? fun p => ((4096 * (k : Nat) : Nat) : Int) == p.1).map (·.2)).getD (Str.ofString "?") = ⟨#[((Str.ofString "?pc?d?b?-?l?s???").cps.toList.getD (((k : Nat) : Nat) : Int).toNat 0)]⟩ := by decide +kernel
  exact key ⟨m / 4096, hk⟩
theorem join0' : ∀ l : List Str, (Str.join (Str.ofString "") l).cps.toList = (l.map (·.cps.toList)).flatten
  | [] => rfl
  | [x] => by simp [Str.join]
  | x :: y :: r => by
    show ((x.cps ++ (Str.ofString "").cps) ++ (Str.join (Str.ofString "") (y :: r)).cps).toList = _
    rw [show (Str.ofString "").cps = #[] by decide +kernel, Array.append_empty, Array.toList_append, join0' (y :: r)]
    simp
theorem join0 (l : List Str) : (Txt.join (Str.ofString "") l).cps.toList = (l.map (·.cps.toList)).flatten := by
  rw [show Txt.join (Str.ofString "") l = Str.join (Str.ofString "") l from StrLaws.glued_eq_join _ l, join0']
theorem app_list (a b : Str) : (a ++ b).cps.toList = a.cps.toList ++ b.cps.toList := by
  show (a.cps ++ b.cps).toList = _
  simp
theorem fm_list {m h : Nat} (hm : m < 65536) (hd : m / 4096 = h / 4096) (g : Nat → Bool) (hg : ∀ b, b < 12 → g b = m.testBit b) : (Txt.join (Str.ofString "") (fmL (m : Int) 10)).cps.toList = (accS (h : Int) g 3).cps.toList := by
  have e : fmL (m : Int) 10 = [fmC m 0 (fmTab.getD 0 []), fmC m 1 [(256, Str.ofString "r")], fmC m 2 [(128, Str.ofString "w")], fmC m 3 [(2112, Str.ofString "s"), (2048, Str.ofString "S"), (64, Str.ofString "x")],
      fmC m 4 [(32, Str.ofString "r")], fmC m 5 [(16, Str.ofString "w")], fmC m 6 [(1032, Str.ofString "s"), (1024, Str.ofString "S"), (8, Str.ofString "x")],
      fmC m 7 [(4, Str.ofString "r")], fmC m 8 [(2, Str.ofString "w")], fmC m 9 [(513, Str.ofString "t"), (512, Str.ofString "T"), (1, Str.ofString "x")]] := rfl
  rw [join0, e, fm_kind hm hd, fmC_one (k := 8) (by decide) (by decide), fmC_one (k := 7) (by decide) (by decide), fmC_three (k := 11) (l := 6) (by decide) (by decide) (by decide) (by decide),
    fmC_one (k := 5) (by decide) (by decide), fmC_one (k := 4) (by decide) (by decide), fmC_three (k := 10) (l := 3) (by decide) (by decide) (by decide) (by decide),
    fmC_one (k := 2) (by decide) (by decide), fmC_one (k := 1) (by decide) (by decide), fmC_three (k := 9) (l := 0) (by decide) (by decide) (by decide) (by decide)]
  simp only [accS, pS, xS, app_list]
  rw [hg 8 (by decide), hg 7 (by decide), hg 11 (by decide), hg 6 (by decide), hg 5 (by decide), hg 4 (by decide), hg 10 (by decide), hg 3 (by decide), hg 2 (by decide), hg 1 (by decide), hg 9 (by decide), hg 0 (by decide)]
  simp
theorem law_list {rs : List Rule} {h : Nat} (i : _root_.Fin 6) (hok : ∀ r ∈ rs, RuleOk r) (h16 : h < 65536) :
    (Txt.join (Str.ofString "") (fmL (ledI (hostLow.getD i "") (h : Int) rs) 10)).cps.toList = (accS (h : Int) (fun b => givB (h : Int) (fitsR (hostL.getD i []) rs) b) 3).cps.toList := by
  obtain ⟨m, a1, a2, a3, a4⟩ := led_all (hl := hostLow.getD i "") rs h hok h16
  rw [a1]
  exact fm_list a2 a3 _ fun b hb => by rw [givB_eq, fits_eq i hok, a4 b hb]
end
-- MCallX
section
set_option autoImplicit false
section
variable {C : Cx} {L : Loc} {n : Led} {Q : Value → Loc → Led → Prop}
theorem codeEnv {A : Around} {E : Value → Shared → Prop} {s : Shared} {f : Fn} {body : List Stmt} {binds : List (Str × Value)} {Lb : Loc} (hA : A.handled = none) (ok : Ok C) (fo : FnOk f body) (hs : Sta C L n s)
    (hloc : ∀ y ∈ binds, y.1 ∈ f.ns) (hLb : look2 f.ns Lb = fun x => binds.reverse.lookup x)
    (h : ∀ C' : Cx, Ok C' → C'.fn = f → C'.w = C.w → C'.A = A.deeper C'.env → (C'.E = fun _ _ => False) → C'.env = callEnv f.fd C'.loc f.fa → C'.gp = C.gp → C'.hid = C.hid →
      W C' (execs body C'.env) Lb n fun fl _ n' => Q (retOf fl) L n') :
    wpAny (model P0 C.w) A.in1 (newFunctionEnv f.fd.scope f.fd.globals f.fd.closure binds (f.fd.qualname ++ ".<locals>.") (some f.fa) f.fd.code none f.fd.builtins) (fun env s₂ => s₂.heap.NoLimit ∧ codeAny (model P0 C.w) A (.func body env) (Gives1 C Q) s₂) E s := by
  refine wpAny_newFunctionEnv fo.cell (fun y hy => (fo.locs _ (hloc y hy)).1) (fun h₁ hns hsb => ⟨(ok.lim.keeps hs.fr.keep).fresh _ hsb, codeAny_func ?_⟩) fo.kind
  have hk₁ : ∀ b o, s.heap.get? b = some o → h₁.get? b = some o := fun b o e => hsb.extBut b o (Nat.ne_of_lt (Heap.lt_size e)) (Heap.get?_push_of_some _ e)
  show wpAny (model P0 C.w) (A.deeper (callEnv f.fd s.heap.objs.size f.fa)) (execs body (callEnv f.fd s.heap.objs.size f.fa)) _ _ _
  have nm : ∀ b o, C.h₀.get? b = some o → b ∉ (n ++ C.hid).map (·.1) := fun b o e q => by
    obtain ⟨p, hp, rfl⟩ := List.mem_map.mp q
    rw [(hs.nw p hp).2.2] at e; cases e
  have st : ∀ b o, C.h₀.get? b = some o → (hideAll s.heap ((n ++ C.hid).map (·.1))).get? b = some o := fun b o e => hideAll_get _ (hs.fr.keep b o e) (nm b o e)
  obtain ⟨oL, es, ep, hL, hLd, hLk, hLf⟩ := hs.fr.ns
  have nL : C.loc ∉ (n ++ C.hid).map (·.1) := fun q => by
    obtain ⟨p, hp, e⟩ := List.mem_map.mp q
    exact (hs.nw p hp).2.1 e
  have hLg := hideAll_get ((n ++ C.hid).map (·.1)) hL nL
  have ok' : Ok ⟨C.w, A.deeper (callEnv f.fd s.heap.objs.size f.fa), fun _ _ => False,
      hideAll s.heap ((n ++ C.hid).map (·.1)), callEnv f.fd s.heap.objs.size f.fa, f, C.mg, C.mb, C.os, C.hid, C.gp⟩ :=
    ⟨ok.k.keeps st, ok.g.keeps st, ok.b.keeps st, ok.gt, ok.bt, ok.lim.keeps st, let ⟨mc, h1, h2⟩ := ok.dig; ⟨mc, h1.keeps st, h2⟩, let ⟨bm, ob, z⟩ := ok.bm; ⟨bm, ob, z.keeps st⟩, hA, fo.gl, fo.bl, fo.kind, fo.locs, fo.gls, fo.nd⟩
  refine wpAny_mono (h _ ok' rfl rfl rfl rfl rfl rfl rfl { s with heap := h₁, toks := s.toks + binds.length } ⟨?_, ?_, hs.nd, hs.gb, hs.os⟩) (fun fl s' hl => ?_) fun _ _ y => y.elim
  · exact ⟨by rw [hLb]; exact hns, fun b o e => hk₁ b o (of_hideAll _ e), Nat.le_of_eq (hideAll_size _ _)⟩
  · exact fun p hp => ⟨hk₁ _ _ (hs.nw p hp).1, Nat.ne_of_lt (Heap.lt_size (hs.nw p hp).1), hideAll_none _ (List.mem_map_of_mem hp)⟩
  obtain ⟨L', n', hs', hq⟩ := hl
  have key : ∃ L' n', Sta C L' n' s' ∧ Q (retOf fl) L' n' := by
    refine ⟨L, n', ⟨⟨⟨oL, es, ep, hs'.fr.keep C.loc oL hLg, hLd, hLk, hLf⟩, fun b o e => hs'.fr.keep b o (st b o e), hs.fr.above⟩, fun p hp => ⟨(hs'.nw p hp).1, fun q => ?_, ?_⟩, hs'.nd, hs'.gb, hs'.os⟩, hq⟩
    · have := (hs'.nw p hp).2.2; dsimp only at this; rw [q, hLg] at this; cases this
    · cases q : C.h₀.get? p.1 with
      | none => rfl
      | some o => have := (hs'.nw p hp).2.2; dsimp only at this; rw [st _ _ q] at this; cases this
  cases fl <;> exact key
theorem codeX {A : Around} {s : Shared} {f : Fn} {body : List Stmt} {args : List Value} {kw : List (Str × Value)} {binds : List (Str × Value)} {Lb : Loc} (hA : A.handled = none) (ok : Ok C) (fo : FnOk f body) (hroom : A.depth < recursionLimit) (hs : Sta C L n s)
    (hbind : BindsTo s f.fd ⟨args, kw⟩ binds) (hloc : ∀ y ∈ binds, y.1 ∈ f.ns) (hLb : look2 f.ns Lb = fun x => binds.reverse.lookup x)
    (h : ∀ C' : Cx, Ok C' → C'.fn = f → C'.w = C.w → C'.A = A.deeper C'.env → (C'.E = fun _ _ => False) → C'.env = callEnv f.fd C'.loc f.fa → C'.gp = C.gp → C'.hid = C.hid →
      W C' (execs body C'.env) Lb n fun fl _ n' => Q (retOf fl) L n') :
    codeAny (model P0 C.w) A (.call (.ref f.fa) ⟨args, kw⟩) (Gives1 C Q) s :=
  have X := ok.k.keeps hs.fr.keep
  codeAny_call_function hroom (X _ _ (fo.at_ _)) rfl fo.co fo.gen fo.body (codeRec_of X (fo.code _)) (hbind _ _ _ _ (codeEnv hA ok fo hs hloc hLb h))
/-- W.cf, with all that is known of the place of the call -/
theorem W.cfx {f : Fn} {body : List Stmt} {args : List Value} (Lb : Loc) (ok : Ok C) (fo : FnOk f body) (hroom : C.A.depth < recursionLimit)
    (hbind : bindArgs f.fd ⟨args, []⟩ = Pure.pure (f.ns.zip args))
    (hLb : startL f.ns args = Lb)
    (h : ∀ C' : Cx, Ok C' → C'.fn = f → C'.w = C.w → C'.A = C.A.deeper C'.env → (C'.E = fun _ _ => False) → C'.env = callEnv f.fd C'.loc f.fa → C'.gp = C.gp → C'.hid = C.hid → W C' (execs body C'.env) Lb n fun fl _ n' => Q (retOf fl) L n') :
    W C (call (.ref f.fa) args) L n Q := by
  subst hLb
  exact fun s hs => wpAny_call (codeAny_mono (codeX ok.hh ok fo hroom hs (BindsTo.of_eq hbind) (fun y hy => (List.of_mem_zip (a := y.1) (b := y.2) hy).1) (funext fun x => by rw [look2_start, lookup_reverse (zip_nodup fo.nd args)]) h) fun r s' g => by
    cases r with
    | error e => exact g.elim
    | ok f => cases f <;> first | exact g | exact g.elim)
end
end
-- MT1
section
set_option maxHeartbeats 0
set_option autoImplicit false
section
variable {C : Cx} {L : Loc} {n : Led} {Q : Value → Loc → Led → Prop} {x dx y dy p1 p2 : Addr} {tk : Nat → Tok} {es : List DictEntry} {k b : Nat} {e1 : List DictEntry} {k1 b1 : Nat} {r : Led} {buf : Str} {nl : Option Value} {tb tp : Tok}
theorem s748 {st : Option Str} {rest : List Nat} {f : RFin} {pos : Nat} {ts tt : Tok} (ok : Ok C) (hr : C.A.depth < 840) (h1 : (p1, dqO) ∈ r) (h2 : (p2, dqO) ∈ r)
    (R : Run st (Str.ofString "") false rest f) (hne : (f.tok.cps.toList == (Str.ofString "").cps.toList) = false) (D : Dct es nsL (lexV x p1 p2 tk (stV ts st) (Str.ofString "") tt) b) (hb : b < 900)
    (D1 : Dct e1 nsS [nl, some (.str buf tb), some (.int pos tp)] b1) (hb1 : b1 < 900) (hz : buf.length ≤ 90000) (hp : buf.cps.toList.drop pos = rest) (hpl : pos ≤ buf.length)
    (h : ∀ es' k' e1' k1' (ts tt tp t : Tok) (pos : Nat), Dct es' nsL (lexV x p1 p2 tk (stV ts f.st) (Str.ofString "") tt) b → Dct e1' nsS [nl, some (.str buf tb), some (.int pos tp)] b1 → buf.cps.toList.drop pos = f.rest → pos ≤ buf.length →
      Q (.str f.tok t) L ((dx, dictOf e1' k1') :: (dy, dictOf es' k') :: (x, instObj 616 dx) :: (y, instObj 751 dy) :: r)) :
    W C (call (.ref 748) [.ref y]) L ((dx, dictOf e1 k1) :: (dy, dictOf es k) :: (x, instObj 616 dx) :: (y, instObj 751 dy) :: r) Q := by
  refine W.cf (f := f748) [some (.ref y), none] ok fo748 (by show _ < 1000; omega) (by kernel_rfl) rfl fun C' ok' hf hw hdd hu => ?_
  have hns : C'.fn.ns = [Str.ofString "self", Str.ofString "token"] := congrArg Fn.ns hf
  conv => arg 2; arg 1; whnf
  walk_at "WS"
  refine W.getM ok' co751 (by walk_at "MEM") (by walk_at "MEM") D (f := 712) (fun _ => by kernel_rfl) (fun _ => by kernel_rfl) (by kernel_rfl) ?_
  refine W.cwm0 ok' (fo712.keep _) ?_
  refine s712 ok' (by omega) h1 h2 R hne D hb D1 hb1 hz hp hpl fun es' k' e1' k1' ts' tt' tp' t' pos' D' D1' hp' hpl' => ?_
  walk_at "WS"
  refine W.getA ok' co751 (by walk_at "MEM") (by walk_at "MEM") D' (by walk_at "AT") ?_
  refine W.eqsn ?_
  walk_at "WS"
  refine iteF rfl ?_
  walk_at "WS"
  exact h _ _ _ _ _ _ _ _ _ D' D1' hp' hpl'
/-- what is known where __next__ has just raised -/
noncomputable def Stopped (Cz : Cx) (P : Led → Prop) (e : Value) (s' : Shared) : Prop := ∃ ea L0 n0 s0, e = .ref ea ∧ Sta Cz L0 n0 s0 ∧ P n0 ∧ Heap.MadeExc s0.heap s'.heap ea "StopIteration" [] ∧ s' = { s0 with heap := s'.heap }
theorem W.raiseStop {xn : Str} {np pos : Pos} {QF : Flow → Loc → Led → Prop} {Cz : Cx} {P : Led → Prop} (ok : Ok C) (hE : C.E = Stopped Cz P) (hC : ∀ L n s, Sta C L n s → Sta Cz L n s) (hx : xn ∈ C.fn.gns) (hm : C.mg xn = none) (hb : C.mb xn = some (.type "StopIteration")) (h : P n) : W C (exec (.Raise (some (.Name xn np)) none pos) C.env) L n QF := fun s hs => by
  refine owsi_raiseC ok.hh ?_ fun h' e hm => ?_
  · exact Name_function_global ok.kind (ok.gls xn hx).1 (loadGlobal_builtin (env := C.env) (by show s.heap.Ns C.env.globals C.mg; rw [ok.gl]; exact ok.g.keeps hs.fr.keep) hm
      (by show s.heap.Ns C.env.builtins C.mb; rw [ok.bl]; exact ok.b.keeps hs.fr.keep) hb ⟨rfl, rfl⟩) (ok.gls xn hx).2
  · rw [hE]
    exact ⟨e, L, n, s, rfl, hC _ _ _ hs, h, hm, rfl⟩
theorem b748e {st : Option Str} {rest : List Nat} {f : RFin} {pos : Nat} {ts tt : Tok} {Cz : Cx} (ok : Ok C) (hf : C.fn = f748) (hr : C.A.depth < 845) (hE : C.E = Stopped Cz fun n0 => ∃ es' k' e1' k1', n0 = ((dx, dictOf e1' k1') :: (dy, dictOf es' k') :: (x, instObj 616 dx) :: (y, instObj 751 dy) :: r)) (hC : ∀ L n s, Sta C L n s → Sta Cz L n s) (h1 : (p1, dqO) ∈ r) (h2 : (p2, dqO) ∈ r)
    (R : Run st (Str.ofString "") false rest f) (hne : f.tok = Str.ofString "") (hfq : f.q = false) (D : Dct es nsL (lexV x p1 p2 tk (stV ts st) (Str.ofString "") tt) b) (hb : b < 900)
    (D1 : Dct e1 nsS [nl, some (.str buf tb), some (.int pos tp)] b1) (hb1 : b1 < 900) (hz : buf.length ≤ 90000) (hp : buf.cps.toList.drop pos = rest) (hpl : pos ≤ buf.length) :
    W C (execs (bodyOf (mAt 26 10)) C.env) [some (.ref y), none] ((dx, dictOf e1 k1) :: (dy, dictOf es k) :: (x, instObj 616 dx) :: (y, instObj 751 dy) :: r) (fun _ _ _ => False) := by
  have hns : C.fn.ns = [Str.ofString "self", Str.ofString "token"] := congrArg Fn.ns hf
  have hgn : C.fn.gns = f748.gns := congrArg Fn.gns hf
  conv => arg 2; arg 1; whnf
  walk_at "WS"
  refine W.getM ok co751 (by walk_at "MEM") (by walk_at "MEM") D (f := 712) (fun _ => by kernel_rfl) (fun _ => by kernel_rfl) (by kernel_rfl) ?_
  refine W.cwm0 ok (fo712.keep _) ?_
  refine s712e ok (by omega) h1 h2 R hne hfq D hb D1 hb1 hz hp hpl fun es' k' e1' k1' ts' tt' tp' t' pos' D' D1' hp' hpl' => ?_
  walk_at "WS"
  refine W.getA ok co751 (by walk_at "MEM") (by walk_at "MEM") D' (by walk_at "AT") ?_
  refine W.eqnn ?_
  walk_at "WS"
  refine iteT rfl ?_
  refine W.cons ?_
  exact W.raiseStop ok hE hC (hgn ▸ (by walk_at "MEM")) (gt_StopIteration ok) (bt_StopIteration ok) ⟨_, _, _, _, rfl⟩
end
end
-- MT2
section
set_option maxHeartbeats 0
set_option autoImplicit false
noncomputable def Cx.rehid (C : Cx) (h : Led) : Cx := { C with hid := h }
section
variable {C : Cx} {L : Loc} {n : Led} {Q : Value → Loc → Led → Prop} {x dx y dy p1 p2 : Addr} {tk : Nat → Tok} {es : List DictEntry} {k b : Nat} {e1 : List DictEntry} {k1 b1 : Nat} {r : Led} {buf : Str} {nl : Option Value} {tb tp : Tok}
/-- the lexer's end: __next__ raises, and the frames on the stack get slots -/
theorem stopNext {A : Around} {E : Value → Shared → Prop} {s : Shared} {lenv : Env} {la : Addr} {oLa : Obj} {hid0 : Led} {esL : Array DictEntry} {epL : Nat} {st : Option Str} {rest : List Nat} {f : RFin} {pos : Nat} {ts tt : Tok} {Rr : Option Value → Shared → Prop}
    (ok : Ok C) (hA : A.handled = none) (hr : A.depth < 840) (hfr : A.frames = some [C.env, lenv]) (hCf : C.env.frame = some C.loc) (hlf : lenv.frame = some la) (hlk : lenv.scope.kind ≠ .module) (hhid : C.hid = (la, oLa) :: hid0) (hLd : oLa.data = .dict esL epL)
    (hs : Sta C L ((dx, dictOf e1 k1) :: (dy, dictOf es k) :: (x, instObj 616 dx) :: (y, instObj 751 dy) :: r) s) (h1 : (p1, dqO) ∈ r) (h2 : (p2, dqO) ∈ r)
    (R : Run st (Str.ofString "") false rest f) (hne : f.tok = Str.ofString "") (hfq : f.q = false) (D : Dct es nsL (lexV x p1 p2 tk (stV ts st) (Str.ofString "") tt) b) (hb : b < 900)
    (D1 : Dct e1 nsS [nl, some (.str buf tb), some (.int pos tp)] b1) (hb1 : b1 < 900) (hz : buf.length ≤ 90000) (hp : buf.cps.toList.drop pos = rest) (hpl : pos ≤ buf.length)
    (h : ∀ s' oLa', oLa'.data = oLa.data → Sta (C.rehid ((la, oLa') :: hid0)) L r s' → Rr none s') : wpAny (model P0 C.w) A (pyNext (.ref y)) Rr E s := by
  have X := ok.k.keeps hs.fr.keep
  refine owit_next (K := K C.w.params) (C := 751) hs.fr ok.k (hs.inst (.tail _ (.tail _ (.tail _ (.head _)))) (.tail _ (.head _))) (f := 748) (by kernel_rfl) (by kernel_rfl) ?_
  refine wpAny_call ?_
  refine codeAny_call_def (fd := f748.fd) (body := bodyOf (mAt 26 10)) (binds := [(Str.ofString "self", .ref y)]) (by show _ < 1000; omega) (X _ _ (fo748.at_ _)) rfl (ok.lim.keeps hs.fr.keep) (codeRec_of X (fo748.code _)) fo748.body (BindsTo.of_eq (by kernel_rfl)) fo748.cell (fun z hz => ?_) (fun h₁ hns hk₁ => ?_) fo748.co fo748.gen fo748.kind
  · simp only [List.mem_cons, List.not_mem_nil, or_false] at hz
    rw [hz]
    kernel_rfl
  generalize hn4 : ((dx, dictOf e1 k1) :: (dy, dictOf es k) :: (x, instObj 616 dx) :: (y, instObj 751 dy) :: r) = n4 at hs
  have nm : ∀ b o, C.h₀.get? b = some o → b ∉ (n4 ++ C.hid).map (·.1) := fun b o e q => by
    obtain ⟨p, hp, rfl⟩ := List.mem_map.mp q
    rw [(hs.nw p hp).2.2] at e; cases e
  have st : ∀ b o, C.h₀.get? b = some o → (hideAll s.heap ((n4 ++ C.hid).map (·.1))).get? b = some o := fun b o e => hideAll_get _ (hs.fr.keep b o e) (nm b o e)
  obtain ⟨oL, esC, epC, hL, hLd', hLk, hLf⟩ := hs.fr.ns
  have nL : C.loc ∉ (n4 ++ C.hid).map (·.1) := fun q => by
    obtain ⟨p, hp, e⟩ := List.mem_map.mp q
    exact (hs.nw p hp).2.1 e
  have hLg := hideAll_get ((n4 ++ C.hid).map (·.1)) hL nL
  let Cz : Cx := ⟨C.w, A.deeper (callEnv f748.fd s.heap.objs.size 748), fun _ _ => False, hideAll s.heap ((n4 ++ C.hid).map (·.1)), callEnv f748.fd s.heap.objs.size 748, f748, C.mg, C.mb, C.os, C.hid, C.gp⟩
  let C8 : Cx := { Cz with E := Stopped Cz fun n0 => ∃ es' k' e1' k1', n0 = ((dx, dictOf e1' k1') :: (dy, dictOf es' k') :: (x, instObj 616 dx) :: (y, instObj 751 dy) :: r) }
  have ok8 : Ok C8 := ⟨ok.k.keeps st, ok.g.keeps st, ok.b.keeps st, ok.gt, ok.bt, ok.lim.keeps st, let ⟨mc, h1, h2⟩ := ok.dig; ⟨mc, h1.keeps st, h2⟩, let ⟨bm, ob, z⟩ := ok.bm; ⟨bm, ob, z.keeps st⟩, hA, fo748.gl, fo748.bl, fo748.kind, fo748.locs, fo748.gls, fo748.nd⟩
  have hs8 : Sta C8 [some (.ref y), none] n4 { s with heap := h₁, toks := s.toks + ([(Str.ofString "self", Value.ref y)] : List (Str × Value)).length } := by
    refine ⟨⟨?_, fun b o e => hk₁ b o (of_hideAll _ e), Nat.le_of_eq (hideAll_size _ _)⟩, ?_, hs.nd, hs.gb, hs.os⟩
    · have hh := funext fun q => look2_start f748.ns [.ref y] q
      have hh2 : look2 f748.ns [some (.ref y), none] = fun q => ([(Str.ofString "self", Value.ref y)] : List (Str × Value)).reverse.lookup q := hh
      show h₁.Ns s.heap.objs.size (look2 f748.ns [some (.ref y), none])
      rw [hh2]; exact hns
    · exact fun p hp => ⟨hk₁ _ _ (hs.nw p hp).1, Nat.ne_of_lt (Heap.lt_size (hs.nw p hp).1), hideAll_none _ (List.mem_map_of_mem hp)⟩
  have body := b748e (k := k) (k1 := k1) (C := C8) (Cz := Cz) ok8 rfl (by show A.depth + 1 < 845; omega) rfl (fun L n s h => ⟨h.fr, h.nw, h.nd, h.gb, h.os⟩) h1 h2 R hne hfq D hb D1 hb1 hz hp hpl
  rw [hn4] at body
  refine wpAny_mono (body _ hs8) (fun fl s' ⟨_, _, _, q⟩ => q.elim) fun e s' he => ?_
  obtain ⟨ea, L0, n0, s0, rfl, hs0, ⟨es', k', e1', k1', hn0⟩, hm, hs'⟩ := he
  obtain ⟨H, g', d', t', o'⟩ := s'
  simp only [Shared.mk.injEq] at hs'
  obtain ⟨_, rfl, rfl, rfl, rfl⟩ := hs'
  dsimp only at hm
  have hlaM : (la, oLa) ∈ n0 ++ Cz.hid := List.mem_append_right _ (by show (la, oLa) ∈ C.hid; rw [hhid]; exact .head _)
  have hlaM' : (la, oLa) ∈ n4 ++ C.hid := List.mem_append_right _ (by rw [hhid]; exact .head _)
  have g1 : s0.heap.get? C.loc = some oL := hs0.fr.keep C.loc oL hLg
  have g2 : s0.heap.get? la = some oLa := (hs0.nw _ hlaM).1
  obtain ⟨o8, es8, ep8, g3, d3, _, _⟩ := hs0.fr.ns
  have g3 : s0.heap.get? s.heap.objs.size = some o8 := g3
  have hb1' : ∀ z ∈ [s.heap.objs.size, C.loc, la], (hideAll s0.heap [s.heap.objs.size, C.loc, la]).get? z = none := fun z hz => hideAll_none _ hz
  have hfun : s0.heap.FunFrames (hideAll s0.heap [s.heap.objs.size, C.loc, la]) [callEnv f748.fd s.heap.objs.size 748, C.env, lenv] := by
    refine ⟨by rw [show (callEnv f748.fd s.heap.objs.size 748).scope.kind = .function from fo748.kind]; decide, ⟨s.heap.objs.size, o8, rfl, hb1' _ (.head _), g3, fun vs q => by rw [d3] at q; cases q⟩, ?_⟩
    refine ⟨by rw [ok.kind]; decide, ⟨C.loc, oL, hCf, hb1' _ (.tail _ (.head _)), g1, fun vs q => by rw [hLd'] at q; cases q⟩, ?_⟩
    exact ⟨hlk, ⟨la, oLa, hlf, hb1' _ (.tail _ (.tail _ (.head _))), g2, fun vs q => by rw [hLd] at q; cases q⟩, trivial⟩
  refine wpAny_leaves_madeW (cls := .type "StopIteration") (args := []) (h := s0.heap) (base := hideAll s0.heap [s.heap.objs.size, C.loc, la]) (outer := [C.env, lenv]) (L := s.heap.objs.size) (Around.frames_deeper hfr) rfl (fun b o q => of_hideAll _ q) hfun (Heap.MadeExc.of hm) fun h' t hfl _ _ hup => ?_
  dsimp only at hup ⊢
  obtain ⟨ob, hob, hobc⟩ := hfl.there
  have hstays := hfl.1
  show OwitStop (model P0 C.w) A Rr E (.ref ea) _
  unfold OwitStop
  have hT : ({ heap := h', gens := s0.gens, drawn := s0.drawn, toks := s0.toks, os := s0.os } : Shared).TypeIs (.ref ea) "StopIteration" := (show ∃ o, h'.get? ea = some o ∧ o.cls = .type "StopIteration" from ⟨ob, hob, hobc⟩)
  refine wpAny_isInstance hT owsi_facts.sub ?_
  show (if true = true then Rr none _ else E (.ref ea) _)
  rw [if_pos rfl]
  obtain ⟨slC, hslC⟩ := hup C.loc oL (hm.keeps _ _ g1) (fun vs q => by rw [hLd'] at q; cases q)
  obtain ⟨slL, hslL⟩ := hup la oLa (hm.keeps _ _ g2) (fun vs q => by rw [hLd] at q; cases q)
  have hlocn : C.h₀.get? C.loc = none := by
    cases q : C.h₀.get? C.loc with
    | none => rfl
    | some o => exact absurd (Heap.lt_size q) (Nat.not_lt.mpr hs.fr.above)
  have far : ∀ b o, s0.heap.get? b = some o → b ≠ s.heap.objs.size → b ≠ C.loc → b ≠ la → h'.get? b = some o := fun b o e a1 a2 a3 => hstays b o (hideAll_get _ e (by
    intro hm
    rcases List.mem_cons.mp hm with e | hm
    · exact a1 e
    · rcases List.mem_cons.mp hm with e | hm
      · exact a2 e
      · rcases List.mem_cons.mp hm with e | hm
        · exact a3 e
        · cases hm))
  have ndr : ∀ p ∈ r ++ hid0, p.1 ≠ la := fun p hp e => by
    have nd := hs.nd
    rw [← hn4, hhid] at nd
    have hpm : ((((dx, dictOf e1 k1) :: (dy, dictOf es k) :: (x, instObj 616 dx) :: (y, instObj 751 dy) :: r) ++ (la, oLa) :: hid0)).Perm ((la, oLa) :: ((dx, dictOf e1 k1) :: (dy, dictOf es k) :: (x, instObj 616 dx) :: (y, instObj 751 dy) :: r) ++ hid0) := List.perm_middle
    have nd2 := (hpm.map (·.1)).nodup_iff.mp nd
    rw [List.cons_append, List.map_cons, List.nodup_cons] at nd2
    refine nd2.1 (List.mem_map.mpr ⟨p, ?_, e⟩)
    rcases List.mem_append.mp hp with hp | hp
    · exact List.mem_append_left _ (.tail _ (.tail _ (.tail _ (.tail _ hp))))
    · exact List.mem_append_right _ hp
  have inz : ∀ p ∈ r ++ hid0, p ∈ n0 ++ Cz.hid := fun p hp => by
    rcases List.mem_append.mp hp with hp | hp
    · rw [hn0]; exact List.mem_append_left _ (.tail _ (.tail _ (.tail _ (.tail _ hp))))
    · refine List.mem_append_right _ ?_
      show p ∈ C.hid
      rw [hhid]; exact .tail _ hp
  refine h _ { oLa with slots := slL } rfl ⟨⟨⟨_, esC, epC, hslC, hLd', hLk, hLf⟩, fun b o e => ?_, hs.fr.above⟩, fun p hp => ?_, ?_, hs0.gb, hs0.os⟩
  · refine far b o (hs0.fr.keep b o (st b o e)) (fun q => ?_) (fun q => ?_) (fun q => ?_)
    · exact absurd (Heap.lt_size (hs.fr.keep b o e)) (by rw [q]; exact Nat.lt_irrefl _)
    · have e2 : C.h₀.get? b = some o := e
      rw [q, hlocn] at e2; cases e2
    · have e2 : C.h₀.get? b = some o := e
      rw [q, (hs.nw _ hlaM').2.2] at e2; cases e2
  · have main : ∀ p ∈ r ++ hid0, h'.get? p.1 = some p.2 ∧ p.1 ≠ C.loc ∧ C.h₀.get? p.1 = none := fun p hp => by
      have z := hs0.nw p (inz p hp)
      have a2 : p.1 ≠ C.loc := fun q => by
        have this : (hideAll s.heap ((n4 ++ C.hid).map (·.1))).get? p.1 = none := z.2.2
        rw [q, hLg] at this; cases this
      refine ⟨far _ _ z.1 z.2.1 a2 (ndr p hp), a2, ?_⟩
      cases q : C.h₀.get? p.1 with
      | none => rfl
      | some o =>
        have this : (hideAll s.heap ((n4 ++ C.hid).map (·.1))).get? p.1 = none := z.2.2
        rw [st _ _ q] at this; cases this
    have hp' : p ∈ r ++ (la, { oLa with slots := slL }) :: hid0 := hp
    rcases List.mem_append.mp hp' with hp | hp
    · exact main p (List.mem_append_left _ hp)
    · cases hp with
      | head => exact ⟨hslL, (hs.nw _ hlaM').2⟩
      | tail _ hp => exact main p (List.mem_append_right _ hp)
  · have nd := hs.nd
    rw [← hn4, hhid] at nd
    show ((r ++ (la, { oLa with slots := slL }) :: hid0).map (·.1)).Nodup
    rw [List.map_append, List.map_cons] at nd ⊢
    simp only [List.map_cons, List.cons_append, List.nodup_cons] at nd
    exact nd.2.2.2.2
end
end
-- MT3
section
set_option maxHeartbeats 0
set_option autoImplicit false
inductive Lexes : Option Str → List Nat → List Str → Prop
  | done {st rest f} : Run st (Str.ofString "") false rest f → f.tok = Str.ofString "" → f.q = false → Lexes st rest []
  | more {st rest f ws} : Run st (Str.ofString "") false rest f → (f.tok.cps.toList == (Str.ofString "").cps.toList) = false → Lexes f.st f.rest ws → Lexes st rest (f.tok :: ws)
section
variable {C : Cx} {L : Loc} {n : Led} {Q : Value → Loc → Led → Prop} {x dx y dy p1 p2 : Addr} {tk : Nat → Tok} {b : Nat} {b1 : Nat} {r : Led} {buf : Str} {nl : Option Value} {tb : Tok}
theorem s741 (ok : Ok C) (hr : C.A.depth < 900) (h : Q (.ref y) L n) : W C (call (.ref 741) [.ref y]) L n Q := by
  refine W.cf (f := f741) [some (.ref y)] ok fo741 (by show _ < 1000; omega) (by kernel_rfl) rfl fun C' ok' hf hw hdd hu => ?_
  have hns : C'.fn.ns = [Str.ofString "self"] := congrArg Fn.ns hf
  conv => arg 2; arg 1; whnf
  walk_at "WS"
  exact h
noncomputable def Cx.at_ (C : Cx) (A : Around) (E : Value → Shared → Prop) : Cx := { C with A := A, E := E }
theorem Ok.at_ (ok : Ok C) {A : Around} (E : Value → Shared → Prop) (hA : A.handled = none) : Ok (C.at_ A E) := ⟨ok.k, ok.g, ok.b, ok.gt, ok.bt, ok.lim, ok.dig, ok.bm, hA, ok.gl, ok.bl, ok.kind, ok.locs, ok.gls, ok.nd⟩
theorem Sta.at_ {A : Around} {E : Value → Shared → Prop} {s : Shared} (hs : Sta C L n s) : Sta (C.at_ A E) L n s := ⟨hs.fr, hs.nw, hs.nd, hs.gb, hs.os⟩
theorem Sta.of_at {A : Around} {E : Value → Shared → Prop} {s : Shared} (hs : Sta (C.at_ A E) L n s) : Sta C L n s := ⟨hs.fr, hs.nw, hs.nd, hs.gb, hs.os⟩
theorem permQ (p a b c d : Addr × Obj) (r : Led) : (a :: b :: c :: d :: p :: r).Perm (p :: a :: b :: c :: d :: r) := List.perm_middle (a := p) (l₁ := [a, b, c, d]) (l₂ := r)
theorem lexLoop {A : Around} {lenv : Env} {la S : Addr} {oLa : Obj} {hid0 : Led} {esL : Array DictEntry} {epL : Nat} {res : Value} {R : Result → Shared → Prop} (ok : Ok C) (hA : A.handled = none) (hr : A.depth < 830) (hfr : A.frames = some [C.env, lenv]) (hCf : C.env.frame = some C.loc) (hlf : lenv.frame = some la) (hlk : lenv.scope.kind ≠ .module)
    (hhid : C.hid = (la, oLa) :: hid0) (hLd : oLa.data = .dict esL epL) (h1 : (p1, dqO) ∈ r) (h2 : (p2, dqO) ∈ r) (hb : b < 900) (hb1 : b1 < 900) (hz : buf.length ≤ 90000) :
    ∀ {st : Option Str} {rest : List Nat} {ws : List Str}, Lexes st rest ws → ∀ {s : Shared} {es e1 : List DictEntry} {k k1 : Nat} {ts tt tp : Tok} {pos : Nat} {acc : List Value} {c : Nat} {us : List Str}, us.length + ws.length ≤ 1000 →
      Sta C L ((dx, dictOf e1 k1) :: (dy, dictOf es k) :: (x, instObj 616 dx) :: (y, instObj 751 dy) :: (S, listOf acc.toArray c) :: r) s → Dct es nsL (lexV x p1 p2 tk (stV ts st) (Str.ofString "") tt) b → Dct e1 nsS [nl, some (.str buf tb), some (.int pos tp)] b1 →
      buf.cps.toList.drop pos = rest → pos ≤ buf.length → StrsAre acc us →
      (∀ s' oLa' acc' c', oLa'.data = oLa.data → Sta (C.rehid ((la, oLa') :: hid0)) L ((S, listOf (List.toArray acc') c') :: r) s' → StrsAre acc' (us ++ ws) → R (.ok (.ret res)) s') →
      codeAny (model P0 C.w) A (.builtin "list.extend.loop" ⟨[.ref S, .ref y, res], []⟩) R s := by
  intro st rest ws hlex
  induction hlex with
  | @done st rest f hrun htok hq =>
    intro s es e1 k k1 ts tt tp pos acc c us hlen hs D D1 hp hpl hacc hR
    refine codeAny_builtin F.entry_extend_loop ?_
    rw [Around.under_plainId F.plain_extend_loop _]
    show wpAny _ A.in1 (pyNext (.ref y) >>= _) _ _ s
    refine wpAny_bind (stopNext (A := A.in1) ok hA (by show A.depth < 840; omega) hfr hCf hlf hlk hhid hLd hs (.tail _ h1) (.tail _ h2) hrun htok hq D hb D1 hb1 hz hp hpl fun s' oLa' hd hs' => ?_)
    exact wpAny_pure (hR s' oLa' acc c hd hs' (by rw [List.append_nil]; exact hacc))
  | @more st rest f ws hrun hne hmore ih =>
    intro s es e1 k k1 ts tt tp pos acc c us hlen hs D D1 hp hpl hacc hR
    refine codeAny_builtin F.entry_extend_loop ?_
    rw [Around.under_plainId F.plain_extend_loop _]
    show wpAny _ A.in1 (pyNext (.ref y) >>= _) _ _ s
    refine wpAny_bind ?_
    refine owit_next (K := K C.w.params) (C := 751) hs.fr ok.k (hs.inst (.tail _ (.tail _ (.tail _ (.head _)))) (.tail _ (.head _))) (f := 748) (by kernel_rfl) (by kernel_rfl) ?_
    generalize hEE : OwitStop (model P0 C.w) A.in1 _ _ = EE
    have okE : Ok (C.at_ A.in1 EE) := ok.at_ EE hA
    refine wpAny_mono (s748 (C := C.at_ A.in1 EE) (Q := fun v L' n' => ∃ es' k' e1' k1' ts tt tp t pos', v = .str f.tok t ∧ L' = L ∧ n' = ((dx, dictOf e1' k1') :: (dy, dictOf es' k') :: (x, instObj 616 dx) :: (y, instObj 751 dy) :: (S, listOf acc.toArray c) :: r) ∧ Dct es' nsL (lexV x p1 p2 tk (stV ts f.st) (Str.ofString "") tt) b ∧ Dct e1' nsS [nl, some (.str buf tb), some (.int ((pos' : Nat) : Int) tp)] b1 ∧ buf.cps.toList.drop pos' = f.rest ∧ pos' ≤ buf.length)
      okE (by show A.depth < 840; omega) (.tail _ h1) (.tail _ h2) hrun hne D hb D1 hb1 hz hp hpl (fun es' k' e1' k1' ts tt tp t pos D D1 hp hpl => ⟨es', k', e1', k1', ts, tt, tp, t, pos, rfl, rfl, rfl, D, D1, hp, hpl⟩) s hs.at_) (fun v s' hv => ?_) fun _ _ e => e
    obtain ⟨L', n', hs', es', k', e1', k1', ts', tt', tp', t', pos', rfl, rfl, rfl, D', D1', hp', hpl'⟩ := hv
    have hs' := hs'.of_at
    have hS' : s'.heap.get? S = some (listOf acc.toArray c) := hs'.mem (p := (S, listOf acc.toArray c)) (.tail _ (.tail _ (.tail _ (.tail _ (.head _)))))
    have hal : acc.length = us.length := hacc.length
    show wpAny _ A.in1 (updateSeq S (·.push (.str f.tok t')) >>= _) _ _ _
    refine wpAny_bind ?_
    refine wpAny_updateSeq hS' rfl (wpAny_pure ⟨plainId_quiet F.plain_extend_loop _, ?_⟩) (by rw [List.size_toArray, hal]; unfold sizeLine; simp only [List.length_cons] at hlen; omega) (by show (acc.toArray.push _).size ≤ sizeLine + 1; rw [Array.size_push, List.size_toArray, hal]; unfold sizeLine; simp only [List.length_cons] at hlen; omega)
    have hget := Heap.get?_update_self (Obj.mapSeq (·.push (Value.str f.tok t'))) hS' rfl
    have e : acc.toArray.push (.str f.tok t') = List.toArray (acc ++ [.str f.tok t']) := by simp
    have hs2 := hs'.chg (tk := s'.toks) (n' := (dx, dictOf e1' k1') :: (dy, dictOf es' k') :: (x, instObj 616 dx) :: (y, instObj 751 dy) :: (S, _) :: r) (.there (.there (.there (.there .here)))) hget (fun b z hb e => (Heap.get?_update_other _ _ (Ne.symm hb)).trans e)
    refine ih (acc := acc ++ [.str f.tok t']) (us := us ++ [f.tok]) (c := _) (by simp only [List.length_append, List.length_cons, List.length_nil] at hlen ⊢; omega) (by rw [← e]; exact hs2) D' D1' hp' hpl' (strsSnoc hacc) fun s'' oLa' acc' c' hd hsx hst => hR s'' oLa' acc' c' hd hsx (by rw [List.append_assoc] at hst; exact hst)
theorem w_nolen {M : Model} {P : Params} {h : Heap} (X : (K P).In h) : Looks M h (typeLookup (.ref 751) "__len__") none := looks_findIn X (by kernel_rfl)
/-- list(lex) -/
theorem lexList {lenv : Env} {la : Addr} {oLa : Obj} {hid0 : Led} {esL : Array DictEntry} {epL : Nat} {s : Shared} {st : Option Str} {rest : List Nat} {ws : List Str} {es e1 : List DictEntry} {k k1 : Nat} {ts tt tp : Tok} {pos : Nat} {R : Value → Shared → Prop}
    (ok : Ok C) (hr : C.A.depth < 830) (hfr : C.A.frames = some [C.env, lenv]) (hCf : C.env.frame = some C.loc) (hlf : lenv.frame = some la) (hlk : lenv.scope.kind ≠ .module)
    (hhid : C.hid = (la, oLa) :: hid0) (hLd : oLa.data = .dict esL epL) (h1 : (p1, dqO) ∈ r) (h2 : (p2, dqO) ∈ r) (hb : b < 900) (hb1 : b1 < 900) (hz : buf.length ≤ 90000) (hlex : Lexes st rest ws) (hlen : ws.length ≤ 1000)
    (hs : Sta C L ((dx, dictOf e1 k1) :: (dy, dictOf es k) :: (x, instObj 616 dx) :: (y, instObj 751 dy) :: r) s) (D : Dct es nsL (lexV x p1 p2 tk (stV ts st) (Str.ofString "") tt) b) (D1 : Dct e1 nsS [nl, some (.str buf tb), some (.int pos tp)] b1) (hp : buf.cps.toList.drop pos = rest) (hpl : pos ≤ buf.length)
    (h : ∀ s' oLa' S acc' c', oLa'.data = oLa.data → Sta (C.rehid ((la, oLa') :: hid0)) L ((S, listOf (List.toArray acc') c') :: r) s' → StrsAre acc' ws → R (.ref S) s') : wpAny (model P0 C.w) C.A (call (.type "list") [.ref y]) R C.E s := by
  have X := ok.k.keeps hs.fr.keep
  refine callType_codes (Q₁ := fun obj s₁ => obj = .ref s.heap.objs.size ∧ s₁ = { s with heap := s.heap.push { cls := .type "list", data := .seq #[] } }) F.called_list (F.typeCall_list_1 _) F.entry_list_init
    (code_list_new _ ⟨rfl, rfl⟩) fun obj s₁ h₁ => ?_
  obtain ⟨rfl, rfl⟩ := h₁
  have hs1 := hs.push (listOf #[] 0)
  generalize hS : s.heap.objs.size = S at hs1 ⊢
  have hS1 := hs1.mem (.head _)
  dsimp only at hS1
  refine ⟨⟨_, hS1, rfl⟩, F.args_list_init_2 _ _, ?_⟩
  show wpAny _ C.A.in1.in1 (do let old ← Builtin.List.listItems (.ref S); Builtin.List.listUpdate (.ref S) (fun _ => #[]); letGo old.toList.reverse; Builtin.List.listExtendWith (.ref S) (.ref y) .none) _ _ _
  refine wpAny_bind ?_
  unfold Builtin.List.listItems
  refine wpAny_bind (wpAny_seqItems hS1 rfl (wpAny_pure ?_))
  show wpAny _ C.A.in1.in1 (updateSeq S (fun _ => #[]) >>= fun _ => letGo (#[] : Array Value).toList.reverse >>= fun _ => Builtin.List.listExtendWith (.ref S) (.ref y) .none) _ _ _
  refine wpAny_bind (wpAny_updateSeq hS1 rfl ?_)
  have g2 := Heap.get?_update_self (Obj.mapSeq (fun _ => (#[] : Array Value))) hS1 rfl
  have hs2 := hs1.chg (tk := s.toks) .here g2 (fun b z hb e => (Heap.get?_update_other _ _ (Ne.symm hb)).trans e)
  refine wpAny_bind (wpAny_letGo ?_)
  unfold Builtin.List.listExtendWith
  have hI2 := hs2.inst (x := y) (dx := dy) (Cl := 751) (.tail _ (.tail _ (.tail _ (.tail _ (.head _))))) (.tail _ (.tail _ (.head _)))
  have X2 := ok.k.keeps hs2.fr.keep
  refine wpAny_bind (hI2.type.here ?_)
  have hSy : S ≠ y := fun e => by
    have nd := hs2.nd
    rw [List.cons_append, List.map_cons, List.nodup_cons] at nd
    exact nd.1 (List.mem_map.mpr ⟨(y, instObj 751 dy), List.mem_append_left _ (.tail _ (.tail _ (.tail _ (.head _)))), e.symm⟩)
  have q1 : Builtin.List.listSameRef (.ref S) (.ref y) = false := by simp [Builtin.List.listSameRef, hSy]
  have q2 : (Value.ref 751 == Value.type "list") = false := by decide
  have q3 : (Value.ref 751 == Value.type "tuple") = false := by decide
  simp only [q1, q2, q3, Bool.or_false, Bool.false_eq_true, if_false]
  refine wpAny_bind (owit_iter (K := K C.w.params) (C := 751) hs2.fr ok.k hI2 (f := 741) (by kernel_rfl) (by kernel_rfl) ?_)
  generalize hEE : (fun (e : Value) (s' : Shared) => wants (fun r s₂ => r = Value.none ∧ R (Value.ref S) s₂) C.E (Except.error e) s') = EE
  have okE : Ok (C.at_ C.A.in1.in1 EE) := ok.at_ EE ok.hh
  refine wpAny_mono (s741 (C := C.at_ C.A.in1.in1 EE) (Q := fun v L' n' => v = .ref y ∧ L' = L ∧ n' = ((S, Obj.mapSeq (fun _ => #[]) (listOf #[] 0)) :: (dx, dictOf e1 k1) :: (dy, dictOf es k) :: (x, instObj 616 dx) :: (y, instObj 751 dy) :: r)) okE (by show C.A.depth < 900; omega) ⟨rfl, rfl, rfl⟩ _ hs2.at_) (fun v s3 hv => ?_) fun _ _ e => e
  obtain ⟨L', n', hs3, rfl, rfl, rfl⟩ := hv
  have hs3 := hs3.of_at
  have X3 := ok.k.keeps hs3.fr.keep
  have hI3 := hs3.inst (x := y) (dx := dy) (Cl := 751) (.tail _ (.tail _ (.tail _ (.tail _ (.head _))))) (.tail _ (.tail _ (.head _)))
  refine owit_it (K := K C.w.params) (C := 751) hs3.fr ok.k hI3 (g := .ref 748) (by kernel_rfl) ?_
  have l1 : Looks (model P0 C.w) s3.heap (specialOf (.ref y) (Str.ofString "__len__")) none := hI3.type.andThen (looks_findIn X3 (by kernel_rfl))
  have l2 : Looks (model P0 C.w) s3.heap (specialOf (.ref y) (Str.ofString "__length_hint__")) none := hI3.type.andThen (looks_findIn X3 (by kernel_rfl))
  refine wpAny_bind (wpAny_holding ?_)
  unfold Builtin.List.listLengthHint
  refine wpAny_bind (l1.here ?_)
  show wpAny _ _ (specialOf (Value.ref y) (Str.ofString "__length_hint__") >>= _) _ _ _
  refine wpAny_bind (l2.here ?_)
  refine wpAny_pure ?_
  show wpAny _ _ (rule "list.extend.makes-room" >>= fun _ => Builtin.List.listTouch (.ref S) >>= fun _ =>
    again (.builtin "list.extend.loop" ⟨[.ref S, .ref y, .none], []⟩)) _ _ _
  refine wpAny_bind (wpAny_rule ?_)
  refine wpAny_bind ?_
  have g3 := hs3.mem (.head _)
  dsimp only at g3
  show wpAny _ _ (updateSeq S (·.push .none) >>= fun _ => updateSeq S (·.pop)) _ _ _
  refine wpAny_bind (wpAny_updateSeq g3 rfl ?_)
  have g4 := Heap.get?_update_self (Obj.mapSeq (·.push Value.none)) g3 rfl
  refine wpAny_updateSeq (hz := by seq_fits) g4 rfl ?_
  have g5 := Heap.get?_update_self (Obj.mapSeq (·.pop)) g4 rfl
  have hs5 := hs3.chg (tk := s3.toks) .here g5 (fun b z hb e => (Heap.get?_update_other _ _ (Ne.symm hb)).trans ((Heap.get?_update_other _ _ (Ne.symm hb)).trans e))
  refine wpAny_pure ⟨plainId_quiet F.plain_extend_loop _, ?_⟩
  refine lexLoop (A := C.A.in1) (S := S) (acc := []) (us := []) ok ok.hh (by show C.A.depth < 830; exact hr) hfr hCf hlf hlk hhid hLd h1 h2 hb hb1 hz hlex (by simpa using hlen) (hs5.perm (permQ _ _ _ _ _ _)) D D1 hp hpl .nil fun s' oLa' acc' c' hd hs' hst => ?_
  exact ⟨rfl, h s' oLa' S acc' c' hd hs' hst⟩
end
end
-- MN1
section
set_option maxHeartbeats 0
set_option autoImplicit false
noncomputable def peekB {α : Type} (K : Frag) (S : Setting) (T : Sem α) (a b : Addr) : Option (Obj × Obj × Sem α) := (peekA K S T).bind fun p => (peekA K S (p.2 a)).map fun q => (p.1, q.1, q.2 b)
section
variable {α : Type} {C : Cx} {L : Loc} {n : Led} {Q : Value → Loc → Led → Prop} {QM : Value × List Value → Loc → Led → Prop}
theorem wp_of_peekB {A : Around} {E : Value → Shared → Prop} {R : α → Shared → Prop} {s : Shared} {t : Sem α} {o1 : Obj} {o2 : Addr → Obj} {T : Addr → Addr → Sem α} (ok : Ok C) (hs : Sta C L n s) (h1 : o1.isFreed = false) (h2 : ∀ a, (o2 a).isFreed = false)
    (hp : ∀ P S a b, peekB (K P) S t a b = some (o1, o2 a, T a b)) (h : ∀ a b h', Sta C L ((b, o2 a) :: (a, o1) :: n) { s with heap := h' } → wpAny (model P0 C.w) A (T a b) R E { s with heap := h' }) : wpAny (model P0 C.w) A t R E s := by
  obtain ⟨p, e1, h3⟩ := Option.bind_eq_some_iff.mp (hp C.w.params ⟨P0, C.w.params⟩ 0 0)
  have hq : ∀ a b, p.1 = o1 ∧ ∃ g, peekA (K C.w.params) ⟨P0, C.w.params⟩ (p.2 a) = some (o2 a, g) ∧ g b = T a b := fun a b => by
    have h4 := hp C.w.params ⟨P0, C.w.params⟩ a b
    unfold peekB at h4
    rw [e1, Option.bind_some] at h4
    obtain ⟨q, e2, h4⟩ := Option.map_eq_some_iff.mp h4
    obtain ⟨h5, h6⟩ := Prod.mk.inj h4
    obtain ⟨h6, h7⟩ := Prod.mk.inj h6
    exact ⟨h5, q.2, by rw [e2, ← h6], h7⟩
  have hp1 := (hq 0 0).1
  refine wp_of_peekA (M := model P0 C.w) hs.fr hs.nw (ok.k.keeps hs.fr.keep) (by rw [hp1]; exact h1) _ p.2 e1 fun h' F' N' hlt => ?_
  rw [hp1] at N'
  have hs1 : Sta C L ((s.heap.objs.size, o1) :: n) { s with heap := h' } := ⟨F', N', hs.fresh (Nat.le_refl _), hs.gb, hs.os⟩
  obtain ⟨_, g, e2, e3⟩ := hq s.heap.objs.size h'.objs.size
  refine wp_of_peekA (M := model P0 C.w) hs1.fr hs1.nw (ok.k.keeps hs1.fr.keep) (h2 _) _ g e2 fun h2 F2 N2 hlt2 => ?_
  have hs2 : Sta C L ((h'.objs.size, o2 s.heap.objs.size) :: (s.heap.objs.size, o1) :: n) { s with heap := h2 } := ⟨F2, N2, hs1.fresh (Nat.le_refl _), hs.gb, hs.os⟩
  show wpAny _ _ (g h'.objs.size) _ _ _
  rw [e3]
  exact h _ _ _ hs2
theorem bind109 (v : Value) : ∀ P S a b, peekB (K P) S (bindArgs f109.fd ⟨[.ref 616, v], []⟩) a b = some (tupOf [v], dictOf [] 0, Pure.pure [(Str.ofString "cls", .ref 616), (Str.ofString "args", .ref a), (Str.ofString "kwargs", .ref b)]) := fun _ _ _ _ => by kernel_rfl
-- object.__new__ of StringIO
theorem w_made616 {M : Model} {P : Params} {h : Heap} (X : (K P).In h) : Looks M h (Bind.staticBase (.ref 616)) (.type "object") := Looks.of_peek X (by kernel_rfl)
theorem w_madeO {M : Model} {h : Heap} : Looks M h (Bind.madeBy (.type "object")) (some "object.__new__") := Looks.of_peek (K := []) (fun _ _ e => by cases e) (by kernel_rfl)
theorem w_type616 {M : Model} {P : Params} {h : Heap} (X : (K P).In h) : Looks M h (isType (.ref 616)) true := Looks.of_peek X (by kernel_rfl)
theorem w_sub616 {M : Model} {P : Params} {h : Heap} (X : (K P).In h) : Looks M h (isSubtype (.ref 616) (.type "object")) true := Looks.of_peek X (by kernel_rfl)
theorem new616 {A : Around} {R : Result → Shared → Prop} {s : Shared} {P : Params} {w : World} (X : (K P).In s.heap) (hq : R (.ok (.ret (.ref (s.heap.objs.size + 1)))) { s with heap := (s.heap.push emptyDict).push (instObj 616 s.heap.objs.size) }) :
    codeAny (model P0 w) A (.call (.builtin "object.__new__") ⟨[.ref 616], []⟩) R s := by
  obtain ⟨h, g, d, t, os⟩ := s
  have l1 := w_made616 (M := model P0 w) X
  have l2 := w_madeO (M := model P0 w) (h := h)
  have l3 := w_type616 (M := model P0 w) X
  have l4 := w_sub616 (M := model P0 w) X
  have hC : h.get? 616 = some o616 := X 616 o616 (by kernel_rfl)
  have F := PySem.F.objNew
  refine codeAny_call_builtin_code (Code.quiet_builtin _ F.quiet) ?_
  simp only [checkBuiltinCall, F.kind, F.split, F.row]
  have here : Looks (model P0 w) h (Bind.madeHere "object.__new__" (.ref 616)) () := l1.andThen (l2.andThen (Looks.of_pure (by simp only [Option.map_some, bne_self_eq_false, Bool.false_eq_true, if_false])))
  have args : Bind.checkArgs "object.__new__" ⟨.hand, "object.__new__", "__new__", .cls, []⟩ ⟨[.ref 616], []⟩ = Pure.pure () := by kernel_rfl
  rw [args]
  repeat (first | simp only [bne_self_eq_false, Bool.false_eq_true, if_false] | lk)
  refine codeAny_builtin F.entry ?_
  unfold Builtin.«object.__new__»
  repeat (first | simp only [Bool.false_eq_true, if_false] | lk)
  refine nd_load (Heap.get?_push_of_some _ (Heap.get?_push_of_some _ hC)) ?_
  refine nd_pure ?_
  refine nd_pure ?_
  rw [if_neg (by decide)]
  refine wpAny_pure (wpAny_pure ?_)
  show R _ _
  rw [Heap.size_push]
  exact hq
theorem W.new616 (ok : Ok C) (h : ∀ x dx, Q (.ref x) L ((x, instObj 616 dx) :: (dx, dictOf [] 0) :: n)) : W C (call (.builtin "object.__new__") [.ref 616]) L n Q := fun s hs =>
  wpAny_call (Mine.new616 (ok.k.keeps hs.fr.keep) ⟨L, _, by
    have h1 := (hs.push (dictOf [] 0)).push (instObj 616 s.heap.objs.size)
    dsimp only at h1
    rw [Heap.size_push] at h1
    exact h1, h _ _⟩)
theorem W.getNew {pl} (ok : Ok C) (h : QM (.builtin "object.__new__", []) L n) : W C (getMethod (.type "object") (Str.ofString "__new__") pl) L n QM := fun s hs =>
  by
  with_reducible refine method_type (v := .builtin "object.__new__") hs.fr ok.k ?_ ?_ ?_ ?_ ?_
  · kernel_rfl
  · decide +kernel
  · kernel_rfl
  · rfl
  · exact ⟨_, _, hs.toks _, h⟩
theorem W.isNotRef {x y : Addr} {ox oy : Obj} (ok : Ok C) (hxy : x ≠ y) (hx : ∀ P, (K P).lookup x = some ox) (hy : ∀ P, (K P).lookup y = some oy) (hnt : ox.cls ≠ .type "tuple") (h : Q (.bool true) L n) : W C (compareOp .IsNot (.ref x) (.ref y)) L n Q := fun s hs =>
  wpAny_isNot_ref_other hxy (ok.k.keeps hs.fr.keep _ _ (hx _)) (ok.k.keeps hs.fr.keep _ _ (hy _)) hnt ⟨_, _, hs, h⟩
theorem W.isNotRefSelf {x : Addr} (h : Q (.bool false) L n) : W C (compareOp .IsNot (.ref x) (.ref x)) L n Q := fun s hs => wpAny_isNot_ref_self ⟨_, _, hs, h⟩
theorem s109 {A : Around} {s : Shared} {v : Value} (hA : A.handled = none) (ok : Ok C) (hr : A.depth < 900) (hs : Sta C L n s) (h : ∀ x dx n', Q (.ref x) L ((x, instObj 616 dx) :: (dx, dictOf [] 0) :: (n' ++ n))) : codeAny (model P0 C.w) A (.call (.ref 109) ⟨[.ref 616, v], []⟩) (Gives1 C Q) s := by
  have X := ok.k.keeps hs.fr.keep
  refine codeAny_call_function (by show _ < 1000; omega) (X _ _ (fo109.at_ _)) rfl fo109.co fo109.gen fo109.body (codeRec_of X (fo109.code _)) ?_
  refine wp_of_peekB ok hs rfl (fun _ => rfl) (bind109 v) fun a b h' hs' => wpAny_pure ?_
  refine codeEnv (Lb := [some (.ref 616), some (.ref a), some (.ref b)]) hA ok fo109 hs' (fun y hy => ?_) ?_ fun C' ok' hf hw hA' hu henv hgp hhid => ?_
  · simp only [List.mem_cons, List.not_mem_nil, or_false] at hy
    rcases hy with rfl | rfl | rfl
    · exact .head _
    · exact .tail _ (.head _)
    · exact .tail _ (.tail _ (.head _))
  · have := funext fun x => look2_start f109.ns [.ref 616, .ref a, .ref b] x
    refine Eq.trans this (funext fun x => (lookup_reverse (zip_nodup fo109.nd [.ref 616, .ref a, .ref b]) x).symm)
  have hns : C'.fn.ns = [Str.ofString "cls", Str.ofString "args", Str.ofString "kwargs"] := congrArg Fn.ns hf
  have hgn : C'.fn.gns = f109.gns := congrArg Fn.gns hf
  conv => arg 2; arg 1; whnf
  walk_at "WS"
  refine W.gl ok' hgn (by walk_at "MEM") (gt_BytesIO ok') ?_
  refine W.isNotRef (ox := o616) (oy := o369) ok' (by decide) (fun _ => by kernel_rfl) (fun _ => by kernel_rfl) (by decide +kernel) ?_
  walk_at "WS"
  refine iteT rfl ?_
  walk_at "WS"
  refine W.gl ok' hgn (by walk_at "MEM") (gt_StringIO ok') ?_
  refine W.isNotRefSelf ?_
  walk_at "WS"
  refine iteF rfl ?_
  refine iteF rfl ?_
  walk_at "WS"
  walk_at "BL"
  with_reducible refine W.getNew ok' ?_
  refine W.cb ?_
  walk_at "WS"
  refine W.new616 ok' fun x dx => ?_
  have := h x dx [(b, dictOf [] 0), (a, tupOf [v])]
  exact this
theorem s393 {x dx : Addr} {es : List DictEntry} {k b : Nat} {bu ps : Option Value} {tn t : Tok} {y : Str} (ok : Ok C) (hr : C.A.depth < 900) (hx : (x, instObj 616 dx) ∈ n) (hd : (dx, dictOf es k) ∈ n) (D : Dct es nsS [some (.str (Str.ofString "\n") tn), bu, ps] b)
    (h : Q (.str y t) L n) : W C (call (.ref 393) [.ref x, .str y t]) L n Q := by
  refine W.cf (f := f393) [some (.ref x), some (.str y t), none] ok fo393 (by show _ < 1000; omega) (by kernel_rfl) rfl fun C' ok' hf hw hdd hu => ?_
  have hns : C'.fn.ns = [Str.ofString "self", Str.ofString "s", Str.ofString "newline"] := congrArg Fn.ns hf
  conv => arg 2; arg 1; whnf
  walk_at "WS"
  refine W.getA ok' co616 hx hd D (by walk_at "AT") ?_
  walk_at "WS"
  refine iteF rfl ?_
  walk_at "WS"
  refine iteF (by kernel_rfl) ?_
  walk_at "WS"
  refine iteF (by kernel_rfl) ?_
  walk_at "WS"
  refine iteF rfl ?_
  walk_at "WS"
  exact h
theorem s386 {A : Around} {s : Shared} {x dx : Addr} {y : Str} {t : Tok} (hA : A.handled = none) (ok : Ok C) (hr : A.depth < 890) (hs : Sta C L ((x, instObj 616 dx) :: (dx, dictOf [] 0) :: n) s)
    (h : ∀ es k tn tp, Dct es nsS [some (.str (Str.ofString "\n") tn), some (.str y t), some (.int 0 tp)] 10 → Q .none L ((x, instObj 616 dx) :: (dx, dictOf es k) :: n)) : codeAny (model P0 C.w) A (.call (.ref 386) ⟨[.ref x, .str y t], []⟩) (Gives1 C Q) s := by
  have X := ok.k.keeps hs.fr.keep
  refine codeX (Lb := [some (.ref x), some (.str y t), some (.str (Str.ofString "\n") 804)]) (binds := [(Str.ofString "self", .ref x), (Str.ofString "initial_value", .str y t), (Str.ofString "newline", .str (Str.ofString "\n") 804)]) hA ok fo386 (by show _ < 1000; omega) hs (kp_binds X fun S => by kernel_rfl) (fun z hz => ?_) ?_ fun C' ok' hf hw hA' hu henv hgp hhid => ?_
  · simp only [List.mem_cons, List.not_mem_nil, or_false] at hz
    rcases hz with rfl | rfl | rfl
    · exact .head _
    · exact .tail _ (.head _)
    · exact .tail _ (.tail _ (.head _))
  · have := funext fun z => look2_start f386.ns [.ref x, .str y t, .str (Str.ofString "\n") 804] z
    refine Eq.trans this (funext fun z => (lookup_reverse (zip_nodup fo386.nd [.ref x, .str y t, .str (Str.ofString "\n") 804]) z).symm)
  have hdep : C'.A.depth = A.depth + 1 := by rw [hA']; rfl
  have hns : C'.fn.ns = [Str.ofString "self", Str.ofString "initial_value", Str.ofString "newline"] := congrArg Fn.ns hf
  have hgn : C'.fn.gns = f386.gns := congrArg Fn.gns hf
  conv => arg 2; arg 1; whnf
  walk_at "WS"
  refine iteT rfl ?_
  walk_at "WS"
  walk_at "BL"
  walk_at "WS"
  refine W.typeOf (fun s => typeIs_str s _ _) (by decide) ?_
  walk_at "BL"
  refine W.isNotSelf (by decide +kernel) ?_
  walk_at "WS"
  refine iteF rfl ?_
  refine iteF rfl ?_
  walk_at "WS"
  refine iteT rfl ?_
  walk_at "WS"
  refine iteT (by kernel_rfl) ?_
  walk_at "WS"
  refine iteF (by kernel_rfl) ?_
  refine iteF rfl ?_
  walk_at "WS"
  refine iteT rfl ?_
  walk_at "WS"
  walk_at "BL"
  walk_at "WS"
  refine W.typeOf (fun s => typeIs_str s _ _) (by decide) ?_
  walk_at "BL"
  refine W.isNotSelf (by decide +kernel) ?_
  walk_at "WS"
  refine iteF rfl ?_
  refine iteF rfl ?_
  walk_at "WS"
  have D0 : Dct [] nsS [none, none, none] 0 := ⟨fun z => by show some none = some (look2 nsS (startL nsS []) z); rw [look2_none], Nat.le_refl _⟩
  refine W.setA (N := fun o => (x, instObj 616 dx) :: (dx, o) :: n) ok' co616 (.head _) (.tail _ (.head _)) D0 (by decide) (by walk_at "SET") (fun _ => .there .here) fun e1 k1 D1 => ?_
  walk_at "WS"
  refine W.setA (N := fun o => (x, instObj 616 dx) :: (dx, o) :: n) ok' co616 (.head _) (.tail _ (.head _)) D1 (by decide) (by walk_at "SET") (fun _ => .there .here) fun e2 k2 D2 => ?_
  walk_at "WS"
  refine W.setA (N := fun o => (x, instObj 616 dx) :: (dx, o) :: n) ok' co616 (.head _) (.tail _ (.head _)) D2 (by decide) (by walk_at "SET") (fun _ => .there .here) fun e3 k3 D3 => ?_
  walk_at "WS"
  refine iteT rfl ?_
  walk_at "WS"
  refine W.getM ok' co616 (by walk_at "MEM") (by walk_at "MEM") D3 (f := 393) (fun _ => by kernel_rfl) (fun _ => by kernel_rfl) (by kernel_rfl) ?_
  refine W.cwm ok' (fo393.keep _) ?_
  walk_at "WS"
  refine s393 ok' (by omega) (.head _) (.tail _ (.head _)) D3 ?_
  walk_at "WS"
  refine W.setA (N := fun o => (x, instObj 616 dx) :: (dx, o) :: n) ok' co616 (.head _) (.tail _ (.head _)) D3 (by decide) (by walk_at "SET") (fun _ => .there .here) fun e4 k4 D4 => ?_
  walk_at "WS"
  exact h _ _ _ _ ⟨D4.get, Nat.le_trans D4.len (by decide)⟩
end
end
-- MN2
section
set_option maxHeartbeats 0
set_option autoImplicit false
section
variable {C : Cx} {L : Loc} {n : Led} {Q : Value → Loc → Led → Prop}
theorem w_opaque {M : Model} {h : Heap} {Cl : Addr} (hd : ∃ mc, h.Ns cStatics mc ∧ mc "sys.int_max_str_digits" = none ∧ mc "thirdparty.any" = none) : Looks M h (opaqueClassAbove (.ref Cl)) none := by
  obtain ⟨mc, hn, _, h2⟩ := hd
  intro A Q E s k q
  unfold opaqueClassAbove anyOpaqueLoaded
  refine wpAny_bind (wpAny_bind (wpAny_nsGet (hn.keeps k) ?_))
  rw [h2]
  exact wpAny_pure (wpAny_pure q)
theorem getNew616 {A : Around} {E : Value → Shared → Prop} {s : Shared} {w : World} {R : Value → Shared → Prop} (X : (K w.params).In s.heap) (hd : ∃ mc, s.heap.Ns cStatics mc ∧ mc "sys.int_max_str_digits" = none ∧ mc "thirdparty.any" = none)
    (h : ∀ tk, R (.ref 109) { s with toks := tk }) : wpAny (model P0 w) A (getAttr (.ref 616) (Str.ofString "__new__") false) R E s := by
  refine cls_open (mc := .type "type") (r := .get (.builtin "staticmethod.__get__") (.ref 113) .none (.ref 616)) X (w_opaque hd) (looks_typeIn X (by kernel_rfl)) (by kernel_rfl) (looks_hook X (r := none) (by rfl)) (by kernel_rfl) (by kernel_rfl) ?_
  show wpAny _ _ (do ret (← holding [.ref 113] (call (.builtin "staticmethod.__get__") [.ref 113, .none, .ref 616]))) _ _ _
  refine wpAny_bind (wpAny_holding (wpAny_call ?_))
  refine sm_get (p := 113) (C := 616) (f := .ref 109) (rest := []) X (by kernel_rfl) ?_
  refine wpAny_pure ?_
  show wpAny _ _ (handedOut (.ref 109)) _ _ _
  exact handed_on rfl (h _)
theorem W.make616 {y : Str} {t : Tok} (ok : Ok C) (hr : C.A.depth < 880)
    (h : ∀ x dx es k tn tp n', Dct es nsS [some (.str (Str.ofString "\n") tn), some (.str y t), some (.int 0 tp)] 10 → Q (.ref x) L ((x, instObj 616 dx) :: (dx, dictOf es k) :: (n' ++ n))) : W C (call (.ref 616) [.str y t]) L n Q := fun s hs => by
  refine wpAny_call ?_
  have X := ok.k.keeps hs.fr.keep
  have hC : s.heap.get? 616 = some o616 := X 616 o616 (by kernel_rfl)
  refine codeAny_of_tree ?_
  show wpAny _ _ (callAny (.ref 616) _) _ _ _
  refine nd_load hC ?_
  show wpAny _ _ (callAny.viaDunder (.ref 616) _) _ _ _
  unfold callAny.viaDunder
  have l1 : Looks (model P0 C.w) s.heap (specialOf (.ref 616) "__call__") (some (.builtin "type.__call__")) := looks_specialIn X (by kernel_rfl)
  refine wpAny_bind (l1.here ?_)
  dsimp only
  rw [tc_bind]
  refine wpAny_bind (wpAny_pure (wpAny_bind (wpAny_pure ?_)))
  refine wpAny_pure (a := Fin.again (.call (.builtin "type.__call__") ⟨.ref 616 :: [.str y t], []⟩)) (And.intro rfl ?_)
  have l2 : Looks (model P0 C.w) s.heap (isInstance (.ref 616) (.type "type")) true := looks_instIn X (by kernel_rfl)
  refine codeAny_call_builtin_at (Code.quiet_builtin _ (by decide +kernel)) entry_typeCall ?_
  with_reducible refine check_slot tc_kind tc_split l2 (tc_args _ _ _) ?_
  unfold Builtin.«type.__call__»
  have l3 : Looks (model P0 C.w) s.heap (mroOf (.ref 616)) [.ref 616, .ref 139, .ref 112, .type "object"] := Looks.of_peek X (by kernel_rfl)
  have l4 : Looks (model P0 C.w) s.heap (Bind.madeBy (.ref 616)) none := Looks.of_peek X (by kernel_rfl)
  generalize hA : C.A.under (.builtin "type.__call__" ⟨.ref 616 :: [.str y t], []⟩) = A'
  have hAh : A'.handled = none := by rw [← hA]; exact ok.hh
  have hAd : A'.depth = C.A.depth + 1 := by rw [← hA]; rfl
  refine wpAny_bind (l3.here ?_)
  rw [if_neg (by decide)]
  refine wpAny_bind (l4.here ?_)
  dsimp only
  refine wpAny_bind (getNew616 X (let ⟨mc, h1, h2⟩ := ok.dig; ⟨mc, h1.keeps hs.fr.keep, h2⟩) fun tk => ?_)
  refine wpAny_bind (wpAny_holding (wpAny_call ?_))
  have hs1 := hs.toks tk
  refine codeAny_mono (s109 (Q := fun v L' n' => ∃ x dx n1, v = .ref x ∧ L' = L ∧ n' = (x, instObj 616 dx) :: (dx, dictOf [] 0) :: (n1 ++ n)) (v := .str y t) hAh ok (by omega) hs1 fun x dx n1 => ⟨x, dx, n1, rfl, rfl, rfl⟩) fun r s2 g => ?_
  cases r with
  | error e => exact g.elim
  | ok fl =>
    cases fl with
    | ret v =>
      obtain ⟨L2, n2, hs2, x, dx, n1, rfl, rfl, rfl⟩ := g
      have X2 := ok.k.keeps hs2.fr.keep
      have hI : W.InstAt s2.heap x (instObj 616 dx) 616 (some (dictOf [] 0)) := hs2.inst (.head _) (.tail _ (.head _))
      have l5 : Looks (model P0 C.w) s2.heap (isInstance (.ref x) (.ref 616)) true := hI.type.andThen (looks_subIn X2 (by kernel_rfl))
      refine wpAny_bind (l5.here ?_)
      rw [if_neg (by decide)]
      refine wpAny_bind (wpAny_holding ?_)
      refine special_fn X2 hI (f := 386) (by kernel_rfl) (by kernel_rfl) (wpAny_call ?_)
      refine codeAny_mono (s386 (Q := fun v L' n' => v = .none ∧ L' = L2 ∧ ∃ es k tn tp, Dct es nsS [some (.str (Str.ofString "\n") tn), some (.str y t), some (.int 0 tp)] 10 ∧ n' = (x, instObj 616 dx) :: (dx, dictOf es k) :: (n1 ++ n)) hAh ok (by omega) hs2 fun es k tn tp D => ⟨rfl, rfl, es, k, tn, tp, D, rfl⟩) fun r s3 g => ?_
      cases r with
      | error e => exact g.elim
      | ok fl =>
        cases fl with
        | ret v =>
          obtain ⟨L3, n3, hs3, rfl, rfl, es, k, tn, tp, D, rfl⟩ := g
          show wpAny _ _ (if (Value.none != Value.none) = true then _ else _) _ _ _
          rw [if_neg (by decide)]
          exact wpAny_pure ⟨_, _, hs3, h _ _ _ _ _ _ _ D⟩
        | _ => exact g.elim
    | _ => exact g.elim
end
end
-- MN3
section
set_option maxHeartbeats 0
set_option autoImplicit false
/-- the lexer's dict behind its making: no comment signs yet, and no whitespace_split -/
noncomputable abbrev lex0 (x p1 p2 : Addr) (tk : Nat → Tok) (st : Value) (tok : Str) (tt : Tok) (cm : Str) (ws : Bool) : Loc :=
  [some st, some (.str tok tt), some (.bool true), some (.str wsS (tk 0)), some (.str qsS (tk 1)), some (.int 0 (tk 2)), some (.str cm (tk 3)), some (.str bsS (tk 4)), some (.str wordS (tk 5)), some (.bool ws), some (.str (Str.ofString "\"") (tk 6)), some (.ref x), some (.str (Str.ofString "") (tk 7)), some .none, some .none, some (.ref p1), some (.int 1 (tk 8)), some (.ref p2), some .none]
section
variable {C : Cx} {L : Loc} {n : Led} {Q : Value → Loc → Led → Prop}
theorem W.isiStr {y : Str} {t : Tok} (h : Q (.bool true) L n) : W C (call (.builtin "isinstance") [.str y t, .type "str"]) L n Q := fun s hs => IsiPair.str_str ⟨_, _, hs, h⟩
theorem sN {x dx y dy : Addr} {es e1 : List DictEntry} {k k1 b : Nat} {r : Led} {name : Str} {v : Value} {vs vs' : Loc} {QU : Unit → Loc → Led → Prop} (ok : Ok C) (D : Dct es nsL vs b) (hb : b < 900) (ha : SetAt nsL vs name v vs')
    (h : ∀ es' k', Dct es' nsL vs' (b + 1) → QU () L ((dx, dictOf e1 k1) :: (dy, dictOf es' k') :: (x, instObj 616 dx) :: (y, instObj 751 dy) :: r)) : W C (setAttr (.ref y) name v) L ((dx, dictOf e1 k1) :: (dy, dictOf es k) :: (x, instObj 616 dx) :: (y, instObj 751 dy) :: r) QU :=
  W.setA (N := fun o => (dx, dictOf e1 k1) :: (dy, o) :: (x, instObj 616 dx) :: (y, instObj 751 dy) :: r) ok co751 (.tail _ (.tail _ (.tail _ (.head _)))) (.tail _ (.head _)) D (by omega) ha (fun _ => .there .here) h
theorem perm4 (p a b c d : Addr × Obj) (r : Led) : (a :: b :: c :: d :: p :: r).Perm (p :: a :: b :: c :: d :: r) := List.perm_middle (a := p) (l₁ := [a, b, c, d]) (l₂ := r)
theorem s675 {A : Around} {s : Shared} {y dy : Addr} {z : Str} {t : Tok} (hA : A.handled = none) (ok : Ok C) (hr : A.depth < 850) (hs : Sta C L ((y, instObj 751 dy) :: (dy, dictOf [] 0) :: n) s)
    (h : ∀ x dx es k e1 k1 p1 p2 tk ts tt tn tp n', Dct es nsL (lex0 x p1 p2 tk (.str spS ts) (Str.ofString "") tt (Str.ofString "#") false) 100 → Dct e1 nsS [some (.str (Str.ofString "\n") tn), some (.str z t), some (.int 0 tp)] 10 → (p1, dqO) ∈ n' → (p2, dqO) ∈ n' →
      Q .none L ((dx, dictOf e1 k1) :: (dy, dictOf es k) :: (x, instObj 616 dx) :: (y, instObj 751 dy) :: (n' ++ n))) : codeAny (model P0 C.w) A (.call (.ref 675) ⟨[.ref y, .str z t], [(Str.ofString "posix", .bool true)]⟩) (Gives1 C Q) s := by
  have X := ok.k.keeps hs.fr.keep
  refine codeX (Lb := [some (.ref y), some (.str z t), some .none, some (.bool true), some (.bool false), none]) (binds := [(Str.ofString "self", .ref y), (Str.ofString "instream", .str z t), (Str.ofString "infile", .none), (Str.ofString "posix", .bool true), (Str.ofString "punctuation_chars", .bool false)]) hA ok fo675 (by show _ < 1000; omega) hs (kp_binds X fun S => by kernel_rfl) (fun z hz => ?_) ?_ fun C' ok' hf hw hA' hu henv hgp hhid => ?_
  · simp only [List.mem_cons, List.not_mem_nil, or_false] at hz
    rcases hz with rfl | rfl | rfl | rfl | rfl
    · exact .head _
    · exact .tail _ (.head _)
    · exact .tail _ (.tail _ (.head _))
    · exact .tail _ (.tail _ (.tail _ (.head _)))
    · exact .tail _ (.tail _ (.tail _ (.tail _ (.head _))))
  · have := funext fun q => look2_start f675.ns [.ref y, .str z t, .none, .bool true, .bool false] q
    refine Eq.trans this (funext fun q => (lookup_reverse (zip_nodup fo675.nd [.ref y, .str z t, .none, .bool true, .bool false]) q).symm)
  have hdep : C'.A.depth = A.depth + 1 := by rw [hA']; rfl
  have hns : C'.fn.ns = [Str.ofString "self", Str.ofString "instream", Str.ofString "infile", Str.ofString "posix", Str.ofString "punctuation_chars", Str.ofString "t"] := congrArg Fn.ns hf
  have hgn : C'.fn.gns = f675.gns := congrArg Fn.gns hf
  have D0 : Dct [] nsL (startL nsL []) 0 := ⟨fun z => by show some none = some (look2 nsL (startL nsL []) z); rw [look2_none], Nat.le_refl _⟩
  have D0 : Dct [] nsL [none, none, none, none, none, none, none, none, none, none, none, none, none, none, none, none, none, none, none] 0 := D0
  conv => arg 2; arg 1; whnf
  walk_at "WS"
  walk_at "BL"
  walk_at "WS"
  walk_at "BL"
  walk_at "WS"
  refine W.isiStr ?_
  walk_at "WS"
  refine iteT rfl ?_
  walk_at "WS"
  refine W.gl ok' hgn (by walk_at "MEM") (gt_StringIO ok') ?_
  refine W.cw ok' (by kernel_rfl) ?_
  walk_at "WS"
  refine W.make616 ok' (by omega) fun x dx e1 k1 tn tp n1 DS => ?_
  walk_at "WS"
  refine iteT rfl ?_
  walk_at "WS"
  refine W.perm (n' := (dx, dictOf e1 k1) :: (dy, dictOf [] 0) :: (x, instObj 616 dx) :: (y, instObj 751 dy) :: (n1 ++ n)) ?_ ?_
  · have h1 : ((x, instObj 616 dx) :: (dx, dictOf e1 k1) :: (n1 ++ ((y, instObj 751 dy) :: (dy, dictOf [] 0) :: n))).Perm ((x, instObj 616 dx) :: (dx, dictOf e1 k1) :: (y, instObj 751 dy) :: (dy, dictOf [] 0) :: (n1 ++ n)) := by
      refine List.Perm.cons _ (List.Perm.cons _ ?_)
      exact List.perm_middle.trans (List.Perm.cons _ List.perm_middle)
    refine List.Perm.trans ?_ h1.symm
    refine (List.Perm.cons _ (List.Perm.swap _ _ _)).trans ?_
    refine (List.Perm.swap _ _ _).trans ?_
    refine List.Perm.cons _ (List.Perm.cons _ ?_)
    exact List.Perm.swap _ _ _
  refine sN ok' D0 (by omega) (by walk_at "SET") fun f1 j1 D1 => ?_
  walk_at "WS"
  refine sN ok' D1 (by omega) (by walk_at "SET") fun f2 j2 D2 => ?_
  walk_at "WS"
  refine sN ok' D2 (by omega) (by walk_at "SET") fun f3 j3 D3 => ?_
  walk_at "WS"
  refine iteT rfl ?_
  walk_at "WS"
  refine sN ok' D3 (by omega) (by walk_at "SET") fun f4 j4 D4 => ?_
  walk_at "WS"
  refine sN ok' D4 (by omega) (by walk_at "SET") fun f5 j5 D5 => ?_
  walk_at "WS"
  refine sN ok' D5 (by omega) (by walk_at "SET") fun f6 j6 D6 => ?_
  walk_at "WS"
  refine W.getA ok' co751 (.tail _ (.tail _ (.tail _ (.head _)))) (.tail _ (.head _)) D6 (by walk_at "AT") ?_
  walk_at "WS"
  refine iteT rfl ?_
  walk_at "WS"
  refine W.getA ok' co751 (.tail _ (.tail _ (.tail _ (.head _)))) (.tail _ (.head _)) D6 (by walk_at "AT") ?_
  walk_at "WS"
  refine W.iadds (by decide +kernel) fun t5 => ?_
  refine sN ok' D6 (by omega) (by walk_at "SET") fun f7 j7 D7 => ?_
  walk_at "WS"
  refine sN ok' D7 (by omega) (by walk_at "SET") fun f8 j8 D8 => ?_
  walk_at "WS"
  refine sN ok' D8 (by omega) (by walk_at "SET") fun f9 j9 D9 => ?_
  walk_at "WS"
  refine sN ok' D9 (by omega) (by walk_at "SET") fun f10 j10 D10 => ?_
  walk_at "WS"
  refine sN ok' D10 (by omega) (by walk_at "SET") fun f11 j11 D11 => ?_
  walk_at "WS"
  refine sN ok' D11 (by omega) (by walk_at "SET") fun f12 j12 D12 => ?_
  walk_at "WS"
  refine sN ok' D12 (by omega) (by walk_at "SET") fun f13 j13 D13 => ?_
  walk_at "WS"
  refine W.gl ok' hgn (by walk_at "MEM") (gt_deque ok') ?_
  refine W.ct0 ?_
  refine W.newDq fun p1 => ?_
  walk_at "WS"
  refine W.perm (perm4 _ _ _ _ _ _) ?_
  refine sN ok' D13 (by omega) (by walk_at "SET") fun f14 j14 D14 => ?_
  walk_at "WS"
  refine sN ok' D14 (by omega) (by walk_at "SET") fun f15 j15 D15 => ?_
  walk_at "WS"
  refine sN ok' D15 (by omega) (by walk_at "SET") fun f16 j16 D16 => ?_
  walk_at "WS"
  refine sN ok' D16 (by omega) (by walk_at "SET") fun f17 j17 D17 => ?_
  walk_at "WS"
  refine W.gl ok' hgn (by walk_at "MEM") (gt_deque ok') ?_
  refine W.ct0 ?_
  refine W.newDq fun p2 => ?_
  walk_at "WS"
  refine W.perm (perm4 _ _ _ _ _ _) ?_
  refine sN ok' D17 (by omega) (by walk_at "SET") fun f18 j18 D18 => ?_
  walk_at "WS"
  refine sN ok' D18 (by omega) (by walk_at "SET") fun f19 j19 D19 => ?_
  walk_at "WS"
  refine iteT rfl ?_
  walk_at "WS"
  refine sN ok' D19 (by omega) (by walk_at "SET") fun f20 j20 D20 => ?_
  walk_at "WS"
  rename_i ac aw1 aw2 aws aqs aes aeq ast aln adb atok apu
  refine W.trs (by decide +kernel) ?_
  refine iteF (by decide +kernel) ?_
  walk_at "WS"
  exact h x dx f20 j20 e1 k1 p1 p2 (fun i => match i with | 0 => aws | 1 => aqs | 2 => adb | 3 => ac | 4 => aes | 5 => t5 | 6 => aeq | 7 => apu | _ => aln) ast atok tn tp ((p2, dqO) :: (p1, dqO) :: n1) ⟨D20.get, Nat.le_trans D20.len (by decide)⟩ DS (.tail _ (.head _)) (.head _)
theorem W.make751 {z : Str} {t : Tok} (ok : Ok C) (hr : C.A.depth < 840)
    (h : ∀ x dx y dy es k e1 k1 p1 p2 tk ts tt tn tp n', Dct es nsL (lex0 x p1 p2 tk (.str spS ts) (Str.ofString "") tt (Str.ofString "#") false) 100 → Dct e1 nsS [some (.str (Str.ofString "\n") tn), some (.str z t), some (.int 0 tp)] 10 → (p1, dqO) ∈ n' → (p2, dqO) ∈ n' →
      Q (.ref y) L ((dx, dictOf e1 k1) :: (dy, dictOf es k) :: (x, instObj 616 dx) :: (y, instObj 751 dy) :: (n' ++ n))) : W C (call (.ref 751) [.str z t] [(Str.ofString "posix", .bool true)]) L n Q := fun s hs => by
  refine wpAny_call ?_
  have X := ok.k.keeps hs.fr.keep
  refine make_K (C := 751) hs.fr hs.nw X (by kernel_rfl) (fI := 675) (by kernel_rfl) (by kernel_rfl) fun y dy h' F' N' hlt hdy => ?_
  have hs1 : Sta C L ((y, instObj 751 dy) :: (dy, dictOf [] 0) :: n) { s with heap := h' } := by
    refine ⟨F', N', ?_, hs.gb, hs.os⟩
    rw [List.cons_append, List.cons_append, List.map_cons, List.map_cons, List.nodup_cons, List.nodup_cons]
    refine ⟨fun hm => ?_, fun hm => ?_, hs.nd⟩
    · rcases List.mem_cons.mp hm with e | hm
      · exact Nat.ne_of_gt hdy e
      · obtain ⟨p, hp, e⟩ := List.mem_map.mp hm
        exact absurd (Nat.lt_trans (hlt p hp) hdy) (by rw [e]; exact Nat.lt_irrefl _)
    · obtain ⟨p, hp, e⟩ := List.mem_map.mp hm
      exact absurd (hlt p hp) (by rw [e]; exact Nat.lt_irrefl _)
  refine codeAny_mono (s675 (Q := fun v L' n' => v = .none ∧ L' = L ∧ Q (.ref y) L n') (z := z) (t := t) ok.hh ok (by show C.A.depth + 1 < 850; omega) hs1 fun x dx es k e1 k1 p1 p2 tk ts tt tn tp n' h1 h2 h3 h4 => ⟨rfl, rfl, h x dx y dy es k e1 k1 p1 p2 tk ts tt tn tp n' h1 h2 h3 h4⟩) fun r s2 g => ?_
  cases r with
  | error e => exact g.elim
  | ok fl =>
    cases fl with
    | ret v =>
      obtain ⟨L2, n2, hs2, rfl, rfl, q⟩ := g
      exact ⟨rfl, _, _, hs2, q⟩
    | _ => exact g.elim
end
end
-- MT4
section
set_option maxHeartbeats 0
set_option autoImplicit false
section
variable {C : Cx} {L : Loc} {n : Led} {Q : Value → Loc → Led → Prop}
theorem W.callK1 {f : Value} {x kn : Str} {np kp pos : Pos} {e kv : Expr} {env : Env} (ok : Ok C) (hk : keepIn (K C.w.params) f = true) (h : W C (eval (.Name x np) env) L n fun g L₁ n₁ => g = f ∧ W C (spliced (backTo pos (starEach [e] env))) L₁ n₁ fun vs L₂ n₂ => W C (eval kv env) L₂ n₂ fun kvv L₃ n₃ => W C (call f vs [(kn, kvv)]) L₃ n₃ Q)
    (he : starEach [e] env = (false, eval e env) :: starEach [] env := by with_unfolding_all rfl) (hp : ((backTo pos (starEach [e] env)).any (·.1) || (backToKw pos (keywordEach [⟨some kn, kv, kp⟩] env)).any (·.1.isNone)) = false := by with_unfolding_all rfl) :
    W C (eval (.Call (.Name x np) [e] [⟨some kn, kv, kp⟩] pos) env) L n Q := fun s hs => by
  refine wpAny_Call_Name_kw (lift1 h hs fun g s₁ L₁ n₁ h₁ q => ?_)
  obtain ⟨rfl, q⟩ := q
  refine callWith_KW (K := K C.w.params) (h₀ := C.h₀) (first := []) ok.k hk rfl (lift1 q h₁ fun vs s₂ L₂ n₂ h₂ q₂ => kwAll_cons (lift1 q₂ h₂ fun kvv s₃ L₃ n₃ h₃ q₃ => kwAll_nil ⟨ok.k.keeps h₃.fr.keep, q₃ _ h₃⟩)) hp he
/-- what is left to do, with an own end -/
noncomputable def W2 {α : Type} (C : Cx) (t : Sem α) (L : Loc) (n : Led) (R : α → Shared → Prop) : Prop := ∀ s, Sta C L n s → wpAny (model P0 C.w) C.A t R C.E s
theorem W2.cons {st rest env} {R : Flow → Shared → Prop} (h : W C (exec st env) L n fun f L' n' => f = .next ∧ W2 C (execs rest env) L' n' R) : W2 C (execs (st :: rest) env) L n R := fun _ hs =>
  wpAny_execs_cons (lift1 h hs fun f _ _ _ h₁ k₁ => by obtain ⟨rfl, k⟩ := k₁; exact k _ h₁)
theorem b763 {lenv : Env} {la : Addr} {oLa : Obj} {hid0 : Led} {esL : Array DictEntry} {epL : Nat} {z : Str} {t : Tok} {ws : List Str} {R : Flow → Shared → Prop} (ok : Ok C) (hf : C.fn = f763) (hr : C.A.depth < 820) (hfr : C.A.frames = some [C.env, lenv]) (hCf : C.env.frame = some C.loc) (hlf : lenv.frame = some la) (hlk : lenv.scope.kind ≠ .module)
    (hhid : C.hid = (la, oLa) :: hid0) (hLd : oLa.data = .dict esL epL) (hlex : Lexes (some spS) z.cps.toList ws) (hlen : ws.length ≤ 1000) (hz : z.length ≤ 90000)
    (h : ∀ s' oLa' L' S acc' c' n', oLa'.data = oLa.data → Sta (C.rehid ((la, oLa') :: hid0)) L' ((S, listOf (List.toArray acc') c') :: (n' ++ n)) s' → StrsAre acc' ws → R (.ret (.ref S)) s') :
    W2 C (execs (bodyOf (stAt 27)) C.env) [some (.str z t), some (.bool false), some (.bool true), none] n R := by
  have hns : C.fn.ns = [Str.ofString "s", Str.ofString "comments", Str.ofString "posix", Str.ofString "lex"] := congrArg Fn.ns hf
  have hgn : C.fn.gns = f763.gns := congrArg Fn.gns hf
  conv => arg 2; arg 1; whnf
  refine W2.cons ?_
  walk_at "WS"
  refine iteF rfl ?_
  walk_at "WS"
  refine ⟨rfl, ?_⟩
  refine W2.cons ?_
  refine W.assn ?_
  refine W.callK1 (f := .ref 751) ok (by kernel_rfl) ?_
  refine W.gl ok hgn (by walk_at "MEM") (gt_shlex ok) ?_
  refine ⟨rfl, ?_⟩
  walk_at "WS"
  refine W.make751 ok (by omega) fun x dx y dy es k e1 k1 p1 p2 tk ts tt tn tp n' D D1 h1 h2 => ?_
  walk_at "WS"
  refine ⟨rfl, ?_⟩
  refine W2.cons ?_
  walk_at "WS"
  refine sA ok D (by decide) (by walk_at "AT") (by walk_at "SET") fun e3 k3 D3 => ?_
  refine ⟨rfl, ?_⟩
  refine W2.cons ?_
  walk_at "WS"
  refine iteT rfl ?_
  walk_at "WS"
  rename_i tc
  refine sA ok D3 (by decide) (by walk_at "AT") (by walk_at "SET") fun e4 k4 D4 => ?_
  walk_at "WS"
  refine ⟨rfl, ?_⟩
  intro s hs
  refine wpAny_execs_cons (wpAny_Return_some (wpAny_Call_NameR ?_))
  refine lift1 (W.bl (Q := fun v L' n2 => v = .type "list" ∧ L' = [some (.str z t), some (.bool false), some (.bool true), some (.ref y)] ∧ n2 = ((dx, dictOf e1 k1) :: (dy, dictOf e4 k4) :: (x, instObj 616 dx) :: (y, instObj 751 dy) :: (n' ++ n))) ok hgn (by walk_at "MEM") (gt_list ok) (bt_list ok) ⟨rfl, rfl, rfl⟩) hs fun v s1 L1 n1 hs1 hv => ?_
  obtain ⟨rfl, rfl, rfl⟩ := hv
  refine PyProof.Rows.callWith_type1 (spliced_cons ?_) rfl rfl
  refine lift1 (W.nm (Q := fun v L' n2 => v = .ref y ∧ L' = [some (.str z t), some (.bool false), some (.bool true), some (.ref y)] ∧ n2 = ((dx, dictOf e1 k1) :: (dy, dictOf e4 k4) :: (x, instObj 616 dx) :: (y, instObj 751 dy) :: (n' ++ n))) ok hns (by walk_at "AT") ⟨rfl, rfl, rfl⟩) hs1 fun v s2 L2 n2 hs2 hv => ?_
  obtain ⟨rfl, rfl, rfl⟩ := hv
  refine spliced_nil ?_
  refine lexList (tk := fun i => match i with | 3 => tc | j => tk j) (b := 100) (b1 := 10) (ts := ts) (tt := tt) (tp := tp) (pos := 0) (st := some spS) ok (by omega) hfr hCf hlf hlk hhid hLd (List.mem_append_left _ h1) (List.mem_append_left _ h2) (by decide) (by decide) hz hlex hlen hs2 D4 D1 rfl (Nat.zero_le _) fun s' oLa' S acc' c' hd hs' hst => ?_
  exact h s' oLa' _ S acc' c' n' hd hs' hst
theorem s763 {z : Str} {t : Tok} {ws : List Str} (ok : Ok C) (hfr : C.A.frames = some [C.env]) (hCf : C.env.frame = some C.loc) (hr : C.A.depth < 800) (hlex : Lexes (some spS) z.cps.toList ws) (hlen : ws.length ≤ 1000) (hz : z.length ≤ 90000)
    (h : ∀ S acc c n', (S, listOf (List.toArray acc) c) ∈ n' → StrsAre acc ws → Q (.ref S) L (n' ++ n)) : W C (call (.ref 763) [.str z t]) L n Q := fun s hs => by
  have X := ok.k.keeps hs.fr.keep
  refine wpAny_call ?_
  refine codeAny_call_def (fd := f763.fd) (body := bodyOf (stAt 27)) (binds := [(Str.ofString "s", .str z t), (Str.ofString "comments", .bool false), (Str.ofString "posix", .bool true)]) (by show _ < 1000; omega) (X _ _ (fo763.at_ _)) rfl (ok.lim.keeps hs.fr.keep) (codeRec_of X (fo763.code _)) fo763.body (kp_binds X fun S => by kernel_rfl) fo763.cell (fun q hq => ?_) (fun h₁ hns hk₁ => ?_) fo763.co fo763.gen fo763.kind
  · simp only [List.mem_cons, List.not_mem_nil, or_false] at hq
    rcases hq with rfl | rfl | rfl <;> kernel_rfl
  obtain ⟨oL, esC, epC, hL, hLd', hLk, hLf⟩ := hs.fr.ns
  have nL : C.loc ∉ (n ++ C.hid).map (·.1) := fun q => by
    obtain ⟨p, hp, e⟩ := List.mem_map.mp q
    exact (hs.nw p hp).2.1 e
  have hlocn : C.h₀.get? C.loc = none := by
    cases q : C.h₀.get? C.loc with
    | none => rfl
    | some o => exact absurd (Heap.lt_size q) (Nat.not_lt.mpr hs.fr.above)
  have st : ∀ b o, C.h₀.get? b = some o → (hideAll s.heap (C.loc :: (n ++ C.hid).map (·.1))).get? b = some o := fun b o e => hideAll_get _ (hs.fr.keep b o e) (fun q => by
    rcases List.mem_cons.mp q with q | q
    · have e2 : C.h₀.get? b = some o := e
      rw [q, hlocn] at e2; cases e2
    · obtain ⟨p, hp, rfl⟩ := List.mem_map.mp q
      rw [(hs.nw p hp).2.2] at e; cases e)
  let Cs : Cx := ⟨C.w, C.A.deeper (callEnv f763.fd s.heap.objs.size 763), fun _ _ => False, hideAll s.heap (C.loc :: (n ++ C.hid).map (·.1)), callEnv f763.fd s.heap.objs.size 763, f763, C.mg, C.mb, C.os, (C.loc, oL) :: C.hid, C.gp⟩
  have oks : Ok Cs := ⟨ok.k.keeps st, ok.g.keeps st, ok.b.keeps st, ok.gt, ok.bt, ok.lim.keeps st, let ⟨mc, h1, h2⟩ := ok.dig; ⟨mc, h1.keeps st, h2⟩, let ⟨bm, ob, z⟩ := ok.bm; ⟨bm, ob, z.keeps st⟩, ok.hh, fo763.gl, fo763.bl, fo763.kind, fo763.locs, fo763.gls, fo763.nd⟩
  have hpm : ∀ m : Led, (m ++ (C.loc, oL) :: C.hid).Perm ((C.loc, oL) :: (m ++ C.hid)) := fun m => List.perm_middle
  have hss : Sta Cs [some (.str z t), some (.bool false), some (.bool true), none] n { s with heap := h₁, toks := s.toks + ([(Str.ofString "s", Value.str z t), (Str.ofString "comments", .bool false), (Str.ofString "posix", .bool true)] : List (Str × Value)).length } := by
    refine ⟨⟨?_, fun b o e => hk₁ b o (of_hideAll _ e), Nat.le_of_eq (hideAll_size _ _)⟩, fun p hp => ?_, ?_, hs.gb, hs.os⟩
    · have hh := funext fun q => look2_start f763.ns [.str z t, .bool false, .bool true] q
      have hh2 : look2 f763.ns [some (.str z t), some (.bool false), some (.bool true), none] = fun q => ([(Str.ofString "s", Value.str z t), (Str.ofString "comments", .bool false), (Str.ofString "posix", .bool true)] : List (Str × Value)).reverse.lookup q :=
        hh.trans (funext fun q => (lookup_reverse (zip_nodup fo763.nd [.str z t, .bool false, .bool true]) q).symm)
      show h₁.Ns s.heap.objs.size (look2 f763.ns _)
      rw [hh2]; exact hns
    · have hp' := (hpm n).mem_iff.mp hp
      cases hp' with
      | head => exact ⟨hk₁ _ _ hL, Nat.ne_of_lt (Heap.lt_size hL), hideAll_none _ (.head _)⟩
      | tail _ hp => exact ⟨hk₁ _ _ (hs.nw p hp).1, Nat.ne_of_lt (Heap.lt_size (hs.nw p hp).1), hideAll_none _ (.tail _ (List.mem_map_of_mem hp))⟩
    · refine ((hpm n).map _).nodup_iff.mpr ?_
      rw [List.map_cons, List.nodup_cons]
      exact ⟨nL, hs.nd⟩
  refine wpAny_mono (b763 (C := Cs) (lenv := C.env) (la := C.loc) (oLa := oL) (hid0 := C.hid) (esL := esC) (epL := epC) (ws := ws) (R := fun fl s' => ∃ oLa' L' S acc' c' n', fl = .ret (.ref S) ∧ oLa'.data = oL.data ∧ Sta (Cs.rehid ((C.loc, oLa') :: C.hid)) L' ((S, listOf (List.toArray acc') c') :: (n' ++ n)) s' ∧ StrsAre acc' ws)
    oks rfl (by show C.A.depth + 1 < 820; omega) (Around.frames_deeper hfr) rfl hCf (by rw [ok.kind]; decide) rfl hLd' hlex hlen hz (fun s' oLa' L' S acc' c' n' hd hs' hst => ⟨oLa', L', S, acc', c', n', rfl, hd, hs', hst⟩) _ hss) (fun fl s' hl => ?_) fun _ _ e => e.elim
  obtain ⟨oLa', L', S, acc', c', n', rfl, hd, hs', hst⟩ := hl
  have hpm' : ((((S, listOf (List.toArray acc') c') :: (n' ++ n)) ++ (C.loc, oLa') :: C.hid)).Perm ((C.loc, oLa') :: (((S, listOf (List.toArray acc') c') :: (n' ++ n)) ++ C.hid)) := List.perm_middle
  have nd' := (hpm'.map (·.1)).nodup_iff.mp hs'.nd
  rw [List.map_cons, List.nodup_cons] at nd'
  have hL' := hs'.nw (C.loc, oLa') (hpm'.mem_iff.mpr (.head _))
  have fin : Sta C L (((S, listOf (List.toArray acc') c') :: n') ++ n) s' := by
    refine ⟨⟨⟨oLa', esC, epC, hL'.1, hd.trans hLd', hLk, hLf⟩, fun b o e => hs'.fr.keep b o (st b o e), hs.fr.above⟩, fun p hp => ?_, nd'.2, hs'.gb, hs'.os⟩
    have hq := hs'.nw p (hpm'.mem_iff.mpr (.tail _ hp))
    refine ⟨hq.1, fun e => nd'.1 (List.mem_map.mpr ⟨p, hp, e⟩), ?_⟩
    cases q : C.h₀.get? p.1 with
    | none => rfl
    | some o =>
      have this : (hideAll s.heap (C.loc :: (n ++ C.hid).map (·.1))).get? p.1 = none := hq.2.2
      rw [st _ _ q] at this; cases this
  exact ⟨L, _, fin, h S acc' c' ((S, listOf (List.toArray acc') c') :: n') (.head _) hst⟩
end
end
-- MQ1
section
set_option maxHeartbeats 0
set_option autoImplicit false
noncomputable def vNat : Value → Nat | .int i _ => i.toNat | _ => 0
noncomputable def seqOf : Data → Array Value | .seq xs _ => xs | _ => #[]
noncomputable def code67 : Array Nat := (seqOf o67.data).map vNat
noncomputable def seenS (s : Sre.Seen) : Sre.Seen := (s.add 21).add 9
noncomputable def seenD (s : Sre.Seen) : Sre.Seen := (((s.add 21).add 9).add 8).add 59
theorem safe_dig (s : Sre.Seen) : ∀ d : Nat, d < 8 → Sre.inSet code67 (48 + d) code67.size 5 true s = .ok (false, seenD s)
  | 0, _ | 1, _ | 2, _ | 3, _ | 4, _ | 5, _ | 6, _ | 7, _ => by kernel_rfl
  | n + 8, h => absurd h (by omega)
theorem safe_sign (s : Sre.Seen) : ∀ p : Bool, Sre.inSet code67 (if p then 43 else 45) code67.size 5 true s = .ok (false, seenS s)
  | true | false => by kernel_rfl
theorem adm1 {m : Sre.M} {k i c : Nat} {s s' : Sre.Seen} (hl : i < m.lim) (hc : m.code = code67) (ht : m.text.getD i 0 = c) (hs : Sre.inSet code67 c code67.size 5 true s = .ok (false, s')) : Sre.M.admitted m (k + 1) i s = Sre.M.admitted m k (i + 1) s' := by
  show (if i ≥ m.lim then _ else _) = _
  rw [if_neg (by omega), hc, ht, hs]
theorem adm_word {m : Sre.M} {p : Bool} {a b c d : Nat} {s : Sre.Seen} (hc : m.code = code67) (hl : m.lim = 5) (ht : m.text = #[if p then 43 else 45, 48 + a, 48 + b, 48 + c, 48 + d]) (ha : a < 8) (hb : b < 8) (hcc : c < 8) (hd : d < 8) :
    Sre.M.admitted m 6 0 s = .ok (none, seenD (seenD (seenD (seenD (seenS s))))) := by
  rw [adm1 (by omega) hc (by rw [ht]; rfl) (safe_sign s p), adm1 (by omega) hc (by rw [ht]; rfl) (safe_dig _ a ha), adm1 (by omega) hc (by rw [ht]; rfl) (safe_dig _ b hb), adm1 (by omega) hc (by rw [ht]; rfl) (safe_dig _ c hcc), adm1 (by omega) hc (by rw [ht]; rfl) (safe_dig _ d hd)]
  show (if 5 ≥ m.lim then _ else _) = _
  rw [if_pos (by omega)]
noncomputable def tgt (x : Str) (t : Tok) : Builtin.Re.ReTarget := { pattern := .ref 68, string := .str x t, code := code67, text := x.cps, kind := 0, groups := 0, pos := 0, lim := x.cps.size }
noncomputable def m0 (x : Array Nat) : Sre.M := { code := code67, text := x, lim := 5, start := 0, lastStart := 5, pc := 18, pos := 0, handed := 0, marks := #[], seen := (({} : Sre.Seen).add 14) }
theorem search_word {p : Bool} {a b c d : Nat} (ha : a < 8) (hb : b < 8) (hcc : c < 8) (hd : d < 8) :
    Sre.forSearch code67 #[if p then 43 else 45, 48 + a, 48 + b, 48 + c, 48 + d] 0 0 5 false =
      ({ m0 #[if p then 43 else 45, 48 + a, 48 + b, 48 + c, 48 + d] with seen := seenD (seenD (seenD (seenD (seenS (({} : Sre.Seen).add 14))))) } : Sre.M).say false := by
  have e : Sre.forSearch code67 #[if p then 43 else 45, 48 + a, 48 + b, 48 + c, 48 + d] 0 0 5 false = (m0 #[if p then 43 else 45, 48 + a, 48 + b, 48 + c, 48 + d]).attemptFrom 0 true := by kernel_rfl
  rw [e]
  unfold Sre.M.attemptFrom
  rw [if_neg (by show ¬ ((!Sre.M.hasFirstSet (m0 _)) = true); rw [show Sre.M.hasFirstSet (m0 #[if p then 43 else 45, 48 + a, 48 + b, 48 + c, 48 + d]) = true from by kernel_rfl]; decide)]
  have ad := adm_word (m := m0 #[if p then 43 else 45, 48 + a, 48 + b, 48 + c, 48 + d]) (s := (m0 #[if p then 43 else 45, 48 + a, 48 + b, 48 + c, 48 + d]).seen) rfl rfl rfl ha hb hcc hd
  show (match Sre.M.admitted _ 6 0 _ with | .ok (some s, seen) => _ | .ok (none, seen) => _ | .error why => _) = _
  rw [ad]
  rfl
theorem look_word {P : Params} {w : World} {h : Heap} {p : Bool} {a b c d : Nat} {t : Tok} (X : (K P).In h) (ha : a < 8) (hb : b < 8) (hcc : c < 8) (hd : d < 8) :
    Looks (model P0 w) h (Builtin.«re.Pattern.search» ⟨[.ref 68, .str ⟨#[if p then 43 else 45, 48 + a, 48 + b, 48 + c, 48 + d]⟩ t], []⟩) (.done (.ret .none)) := by
  have h1 : Looks (model P0 w) h (Builtin.Re.reTarget "re.Pattern.search" "search" ⟨[.ref 68, .str ⟨#[if p then 43 else 45, 48 + a, 48 + b, 48 + c, 48 + d]⟩ t], []⟩) (tgt ⟨#[if p then 43 else 45, 48 + a, 48 + b, 48 + c, 48 + d]⟩ t) := Looks.of_peek X (by kernel_rfl)
  refine h1.andThen ?_
  show Looks _ _ (Builtin.Re.reAnswer _ (Sre.forSearch code67 #[if p then 43 else 45, 48 + a, 48 + b, 48 + c, 48 + d] 0 0 5 false)) _
  rw [search_word ha hb hcc hd]
  exact Looks.of_peek X (by kernel_rfl)
end
-- MQ2
section
set_option maxHeartbeats 0
set_option autoImplicit false
section
variable {α : Type} {C : Cx} {L : Loc} {n : Led} {Q : Value → Loc → Led → Prop} {QF : Flow → Loc → Led → Prop} {QM : Value × List Value → Loc → Led → Prop}
/-- W where some token has been drawn -/
noncomputable def W1 {α : Type} (C : Cx) (t : Sem α) (L : Loc) (n : Led) (Q : α → Loc → Led → Prop) : Prop :=
  ∀ s, Sta C L n s → 1 ≤ s.toks → wpAny (model P0 C.w) C.A t (fun v s' => ∃ L' n', Sta C L' n' s' ∧ Q v L' n') C.E s
theorem W.w1 {t : Sem α} {Q : α → Loc → Led → Prop} (h : W C t L n Q) : W1 C t L n Q := fun s hs _ => h s hs
theorem lift2 {t : Sem α} {R : α → Shared → Prop} {Q : α → Loc → Led → Prop} {s : Shared} (h : W1 C t L n Q) (hs : Sta C L n s) (ht : 1 ≤ s.toks) (k : ∀ v s' L' n', Sta C L' n' s' → 1 ≤ s'.toks → Q v L' n' → R v s') : wpAny (model P0 C.w) C.A t R C.E s :=
  wpAny_mono (wpAny_toks_of ht (h s hs ht)) (fun v s' ⟨ht', L', n', h', q⟩ => k v s' L' n' h' ht' q) fun _ _ x => x.2
noncomputable def Seq1 (C : Cx) (env : Env) (rest : List Stmt) (QF : Flow → Loc → Led → Prop) : Flow → Loc → Led → Prop
  | .next, L, n => W1 C (execs rest env) L n QF
  | .brk, L, n => QF .brk L n
  | .cont, L, n => QF .cont L n
  | .ret v, L, n => QF (.ret v) L n
theorem W1.cons {st rest env} (h : W C (exec st env) L n (Seq1 C env rest QF)) : W1 C (execs (st :: rest) env) L n QF := fun _ hs ht =>
  wpAny_execs_cons (lift2 h.w1 hs ht fun f _ _ _ h₁ t₁ k₁ => by cases f <;> first | exact k₁ _ h₁ t₁ | exact ⟨_, _, h₁, k₁⟩)
theorem W1.last {e pos env} (h : W1 C (eval e env) L n fun v L₁ n₁ => QF (.ret v) L₁ n₁) : W1 C (execs [.Return (some e) pos] env) L n QF := fun _ hs ht =>
  wpAny_execs_cons (wpAny_Return_some (lift2 h hs ht fun _ _ _ _ h₁ _ k₁ => ⟨_, _, h₁, k₁⟩))
theorem W1.binop {l op r pos env} (h : W1 C (eval l env) L n fun a L₁ n₁ => W1 C (eval r env) L₁ n₁ fun b L₂ n₂ => W C (binaryOp op a b) L₂ n₂ Q) : W1 C (eval (.BinOp l op r pos) env) L n Q := fun _ hs ht =>
  wpAny_BinOp (lift2 h hs ht fun _ _ _ _ h₁ t₁ k₁ => lift2 k₁ h₁ t₁ fun _ _ _ _ h₂ _ k₂ => k₂ _ h₂)
theorem W1.mN {y p name apos args pos env} (h : ∀ pl, W C (eval (.Name y p) env) L n fun ov L₁ n₁ => W C (getMethod ov name pl) L₁ n₁ fun fx L₂ n₂ => W1 C (callWith pos fx.1 fx.2 (backTo pos (starEach args env)) []) L₂ n₂ Q)
    (hfew : methodCallForm (args.length + 0) (backTo pos (starEach args env)) [] = true := by with_unfolding_all rfl) (hline : (apos.endLine == pos.line) = true := by with_unfolding_all rfl) :
    W1 C (eval (.Call (.Attribute (.Name y p) name apos) args [] pos) env) L n Q := fun _ hs ht => by
  rw [arm_eval_Call]
  have e1 : attributeBase (.Name y p) name env (eval (.Name y p) env) = eval (.Name y p) env := rfl
  rw [e1]
  refine wpAny_bind (lift2 (h (do return (← importBound (.Name y p) env).getD true)).w1 hs ht fun ov s₁ L₁ n₁ h₁ t₁ k₁ => wpAny_bind (wpAny_standAt ?_))
  unfold methodCall
  have e2 : methodCallForm (args.length + ([] : List Keyword).length) (backTo pos (starEach args env)) (backToKw pos (keywordEach [] env)) = true := hfew
  rw [e2]
  refine wpAny_bind (wpAny_holding ?_)
  unfold calleeOf
  rw [if_pos rfl]
  refine lift2 k₁.w1 h₁ t₁ fun fx s₂ L₂ n₂ h₂ t₂ k₂ => ?_
  unfold methodCallPos
  obtain ⟨f, first⟩ := fx
  dsimp only
  rw [hline]
  show wpAny _ _ (Pure.pure pos >>= _) _ _ _
  exact wpAny_bind (wpAny_pure (k₂ _ h₂ t₂))
theorem W1.rep {x y : Str} {k p k' p' self} {pos env} (h : ∀ u v, u ≠ 0 → v ≠ 0 → u ≠ v → W C (call (.builtin "str.replace") [self, .str x u, .str y v]) L n Q) :
    W1 C (callWith pos (.builtin "str.replace") [self] (backTo pos (starEach [.Constant (.str x) k p, .Constant (.str y) k' p'] env)) []) L n Q := fun s hs ht =>
  callWith_builtin rfl (evalArgs_plain (spliced_cons (wpAny_Constant_str (k := k) (pos := p) (spliced_cons (wpAny_Constant_str (k := k') (pos := p') (spliced_nil (h s.toks (s.toks + 1) (Nat.ne_of_gt ht) (Nat.succ_ne_zero _) (Nat.ne_of_lt (Nat.lt_succ_self _)) _ (hs.toks _))))))))
theorem W.getReplace {x t pl} (h : QM (.builtin "str.replace", [.str x t]) L n) : W C (getMethod (.str x t) (Str.ofString "replace") pl) L n QM := fun _ hs => by with_reducible exact GM.replace ⟨_, _, hs, h⟩
theorem W.replace {x y z : Str} {t u v : Tok} (hu : u ≠ 0) (hv : v ≠ 0) (huv : u ≠ v) (hyz : (y == z) = false) (hx : x.length ≤ 1048576) (hz : z.length ≤ 14) (h : ∀ t, Q (.str (Txt.replace x y z) t) L n) : W C (call (.builtin "str.replace") [.str x t, .str y u, .str z v]) L n Q := fun _ hs =>
  SC.replaceW hu hv huv hyz hx hz fun _ _ => ⟨_, _, hs.toks _, h _⟩
-- the bound search
theorem b771 : ∀ P, (K P).lookup 771 = some o771 := fun _ => by kernel_rfl
theorem keep771 {P : Params} {M : Model} (h : Heap) (X : (K P).In h) : Looks M h (keeperOf (.ref 771)) .machine := Looks.of_peek X (by kernel_rfl)
theorem W.cw771 {e rest pos env} (ok : Ok C) (h : W C (spliced (backTo pos (starEach (e :: rest) env))) L n fun vs L₁ n₁ => W C (call (.ref 771) vs) L₁ n₁ Q)
    (he : starEach (e :: rest) env = (false, eval e env) :: starEach rest env := by with_unfolding_all rfl) (hp : (backTo pos (starEach rest env)).any (·.1) = false := by with_unfolding_all rfl) :
    W C (callWith pos (.ref 771) [] (backTo pos (starEach (e :: rest) env)) []) L n Q := fun _ hs => by
  rw [he]
  have h' := h
  rw [he] at h'
  exact callWith_of (P := fun h => (K C.w.params).In h) (by show ((false || (backTo pos (starEach rest env)).any (·.1)) || false) = false; rw [hp]; rfl) (fun h X => ⟨.machine, .inr (.inl rfl), keep771 h X⟩) (evalArgs_plain (lift1 h' hs fun _ _ _ _ h₁ k₁ => ⟨ok.k.keeps h₁.fr.keep, k₁ _ h₁⟩))
theorem re_sig : ∃ sig, Manifest.signature? "re.Pattern.search" = some sig ∧ ∀ v : Value, Bind.checkArgs "re.Pattern.search" { sig with full := "Pattern.search" } ⟨[.ref 68, v], []⟩ = Pure.pure () := by
  cases h : Manifest.signature? "re.Pattern.search" with
  | none =>
    have e : (Manifest.signature? "re.Pattern.search").isSome = true := by kernel_rfl
    rw [h] at e; cases e
  | some sig =>
    refine ⟨sig, rfl, fun v => ?_⟩
    have e : (Manifest.signature? "re.Pattern.search").map (fun sig => Bind.checkArgs "re.Pattern.search" { sig with full := "Pattern.search" } ⟨[.ref 68, v], []⟩) = some (Pure.pure ()) := by kernel_rfl
    rw [h] at e
    exact Option.some.inj e
theorem re_last : Bind.lastOf "re.Pattern.search" = "search" := by decide +kernel
theorem re_last2 : Bind.lastOf "re.Pattern" = "Pattern" := by decide +kernel
theorem re_va : Manifest.varargsMethods.contains "re.Pattern.search" = false := by decide +kernel
theorem re_kind : builtinKind "re.Pattern.search" = some Manifest.AttrKind.method := by decide +kernel
theorem re_bound {P : Params} {M : Model} {A : Around} {E : Value → Shared → Prop} {s : Shared} {v : Value} {Q : Unit → Shared → Prop} (X : (K P).In s.heap) (h : Q () s) : wpAny M A (checkBoundCall "re.Pattern.search" ⟨[.ref 68, v], []⟩) Q E s := by
  obtain ⟨sig, hsig, hc⟩ := re_sig
  have l1 : Looks M s.heap (isInstance (.ref 68) (.type "module")) false := Looks.of_peek X (by kernel_rfl)
  have l2 : Looks M s.heap (isType (.ref 68)) false := Looks.of_peek X (by kernel_rfl)
  have l3 : Looks M s.heap (typeOf (.ref 68)) (.type "re.Pattern") := Looks.of_peek X (by kernel_rfl)
  have ek : (Manifest.AttrKind.method != Manifest.AttrKind.method && Manifest.AttrKind.method != Manifest.AttrKind.classMethod) = false := by decide
  unfold checkBoundCall
  rw [hsig]
  simp only [re_kind, re_last, ek, re_va, Bool.false_eq_true, if_false]
  refine wpAny_bind (l1.here ?_)
  simp only [Bool.or_false, Bool.false_eq_true, if_false]
  refine wpAny_bind (l2.here ?_)
  simp only [Bool.false_eq_true, if_false]
  refine wpAny_bind (l3.here ?_)
  simp only [re_last2]
  have ef : toString "Pattern" ++ toString "." ++ toString "search" = "Pattern.search" := by decide +kernel
  rw [ef, hc]
  exact wpAny_pure h
theorem quiet_re (a : Args) : (Code.builtin "re.Pattern.search" a).quiet = true := Code.quiet_builtin _ (by decide +kernel)
theorem W.call771 {x : Str} {t : Tok} (ok : Ok C) (h : ∀ (R : Value → Shared → Prop) (E' : Value → Shared → Prop) (A' : Around) s, Sta C L n s → (∀ v L' n' s', Sta C L' n' s' → Q v L' n' → R v s') → wpAny (model P0 C.w) A' (Builtin.«re.Pattern.search» ⟨[.ref 68, .str x t], []⟩) (fun f s' => ∃ v, f = .done (.ret v) ∧ R v s') E' s) :
    W C (call (.ref 771) [.str x t]) L n Q := fun s hs => by
  have X := ok.k.keeps hs.fr.keep
  have ho : s.heap.get? 771 = some o771 := X _ _ (b771 _)
  refine wpAny_call (codeAny_of_tree ?_)
  show wpAny _ C.A.in1 (callAny (.ref 771) ⟨[.str x t], []⟩) _ _ s
  simp only [callAny]
  refine wpAny_bind (wpAny_load ho ?_)
  simp only [o771, show (Value.type "builtin_function_or_method" == Value.type "method" || Value.type "builtin_function_or_method" == Value.type "builtin_function_or_method" || Value.type "builtin_function_or_method" == Value.type "method-wrapper") = true by decide, if_true]
  show wpAny _ _ (if (Value.type "builtin_function_or_method" != Value.type "method") = true then (do checkBoundCall "re.Pattern.search" ⟨[.ref 68, .str x t], []⟩; again (.builtin "re.Pattern.search" ⟨[.ref 68, .str x t], []⟩)) else again (.call (.builtin "re.Pattern.search") ⟨[.ref 68, .str x t], []⟩)) _ _ _
  rw [if_pos (by decide)]
  refine wpAny_bind (re_bound X ?_)
  refine wpAny_pure ?_
  refine ⟨quiet_re _, codeAny_builtin re_entry ?_⟩
  refine wpAny_mono (h (fun v s' => ∃ L' n', Sta C L' n' s' ∧ Q v L' n') _ _ s hs fun v L' n' s' hs' q => ⟨_, _, hs', q⟩) (fun f s' hf => ?_) fun _ _ e => e
  obtain ⟨v, rfl, hv⟩ := hf
  exact hv
/-- the base facts of a heap, without a place -/
structure Base (w : World) (mg mb : Str → Option Value) (h : Heap) : Prop where
  k : (K w.params).In h
  g : h.Ns mainGlobals mg
  b : h.Ns builtinsNs mb
  gt : ∀ p ∈ gtab, mg p.1 = p.2
  bt : ∀ x : Str, x ≠ "__name__" → mb x = bootBuiltins x
  lim : h.NoLimit
  dig : ∃ mc, h.Ns cStatics mc ∧ mc "sys.int_max_str_digits" = none ∧ mc "thirdparty.any" = none
  bm : ∃ bm ob, BMod h mainGlobals mg bm ob
theorem Base.keeps {w : World} {mg mb : Str → Option Value} {h h' : Heap} (B : Base w mg mb h) (st : ∀ b o, h.get? b = some o → h'.get? b = some o) : Base w mg mb h' :=
  ⟨B.k.keeps st, B.g.keeps st, B.b.keeps st, B.gt, B.bt, B.lim.keeps st, let ⟨mc, h1, h2⟩ := B.dig; ⟨mc, h1.keeps st, h2⟩, let ⟨bm, ob, z⟩ := B.bm; ⟨bm, ob, z.keeps st⟩⟩
theorem Ok.base (ok : Ok C) : Base C.w C.mg C.mb C.h₀ := ⟨ok.k, ok.g, ok.b, ok.gt, ok.bt, ok.lim, ok.dig, ok.bm⟩
/-- a call that keeps all that is there -/
theorem callKeeps {w : World} {A : Around} {E : Value → Shared → Prop} {mg mb : Str → Option Value} {s : Shared} {f : Fn} {body : List Stmt} {args : List Value} {Lb : Loc} {P : Value → Prop} (hA : A.handled = none) (B : Base w mg mb s.heap) (fo : FnOk f body) (hroom : A.depth < recursionLimit)
    (hbind : bindArgs f.fd ⟨args, []⟩ = Pure.pure (f.ns.zip args)) (hLb : startL f.ns args = Lb) (hpos : 0 < (f.ns.zip args).length)
    (h : ∀ C' : Cx, Ok C' → C'.fn = f → C'.w = w → (C'.A.depth = A.depth + 1 ∧ C'.A.units = A.units + 3) → (C'.E = fun _ _ => False) → W1 C' (execs body C'.env) Lb [] fun fl _ _ => P (retOf fl)) :
    wpAny (model P0 w) A (call (.ref f.fa) args) (fun v s' => P v ∧ Keeps s s') E s := by
  refine wpAny_call ?_
  refine codeAny_call_def (fd := f.fd) (body := body) (binds := f.ns.zip args) hroom (B.k _ _ (fo.at_ _)) rfl B.lim (codeRec_of B.k (fo.code _)) fo.body (BindsTo.of_eq hbind) fo.cell
    (fun y hy => (fo.locs _ (List.of_mem_zip (a := y.1) (b := y.2) hy).1).1) (fun h₁ hns hk₁ => ?_) fo.co fo.gen fo.kind
  have hLb' : look2 f.ns Lb = fun x => (f.ns.zip args).reverse.lookup x := by subst hLb; exact funext fun x => by rw [look2_start, lookup_reverse (zip_nodup fo.nd args)]
  have ok' : Ok ⟨w, A.deeper (callEnv f.fd s.heap.objs.size f.fa), fun _ _ => False, s.heap, callEnv f.fd s.heap.objs.size f.fa, f, mg, mb, s.os, [], fun g d => g = s.gens ∧ d = s.drawn⟩ :=
    ⟨B.k, B.g, B.b, B.gt, B.bt, B.lim, B.dig, B.bm, hA, fo.gl, fo.bl, fo.kind, fo.locs, fo.gls, fo.nd⟩
  refine wpAny_mono (h _ ok' rfl rfl ⟨rfl, rfl⟩ rfl { s with heap := h₁, toks := s.toks + (f.ns.zip args).length } ⟨?_, ?_, List.nodup_nil, ⟨rfl, rfl⟩, rfl⟩ (by show 1 ≤ s.toks + _; omega)) (fun fl s' hl => ?_) fun _ _ y => y.elim
  · exact ⟨by rw [hLb']; exact hns, fun b o e => hk₁ b o e, Nat.le_refl _⟩
  · intro p hp; cases hp
  obtain ⟨L', n', hs', hq⟩ := hl
  have key : P (retOf fl) ∧ Keeps s s' := by
    refine ⟨hq, s'.heap, s'.toks, ?_, hs'.fr.keep⟩
    obtain ⟨hg, hd⟩ := hs'.gb
    have ho := hs'.os
    obtain ⟨h1, g1, d1, t1, o1⟩ := s'
    dsimp only at hg hd ho ⊢
    subst hg hd ho
    rfl
  cases fl <;> exact key
end
end
-- MQ3
section
set_option maxHeartbeats 0
set_option autoImplicit false
noncomputable def zraw : List String := [".b", ".a.b", "a.b", ".it's.B", "it's.b", ".7", "a.7", "B"]
noncomputable def zq : List String := [".b", ".a.b", "a.b", "'.it'\"'\"'s.B'", "'it'\"'\"'s.b'", ".7", "a.7", "B"]
theorem zraw_eq : ∀ z : _root_.Fin 8, zoneS (zoneL.getD z (false, [])) = Str.ofString (zraw.getD z "") := by decide +kernel
inductive Quo : Str → Str → Prop
  | word (p : Bool) {a b c d : Nat} (ha : a < 8) (hb : b < 8) (hc : c < 8) (hd : d < 8) : Quo ⟨#[if p then 43 else 45, 48 + a, 48 + b, 48 + c, 48 + d]⟩ ⟨#[if p then 43 else 45, 48 + a, 48 + b, 48 + c, 48 + d]⟩
  | safe (z : String) (hz : z ∈ [".b", ".a.b", "a.b", ".7", "a.7", "B"]) : Quo (Str.ofString z) (Str.ofString z)
  | tick (z q : String) (hz : (z, q) ∈ [(".it's.B", "'.it'\"'\"'s.B'"), ("it's.b", "'it'\"'\"'s.b'")]) : Quo (Str.ofString z) (Str.ofString q)
theorem look_safe (P : Params) (S : Setting) (t : Tok) : ∀ z ∈ [".b", ".a.b", "a.b", ".7", "a.7", "B"], peek (K P) S (Builtin.«re.Pattern.search» ⟨[.ref 68, .str (Str.ofString z) t], []⟩) = some (.done (.ret .none)) := by
  intro x hx
  simp only [List.mem_cons, List.not_mem_nil, or_false] at hx
  rcases hx with rfl | rfl | rfl | rfl | rfl | rfl <;> kernel_rfl
noncomputable abbrev mq (v : Value) (a : Addr) (l : Int) : Obj := { cls := .type "re.Match", data := .fields #[v, .ref 68, rawInt 0, rawInt l, rawInt (-1), .ref a] }
theorem look_t1 (P : Params) (S : Setting) (t : Tok) (a b : Addr) : peek2 (K P) S (Builtin.«re.Pattern.search» ⟨[.ref 68, .str (Str.ofString ".it's.B") t], []⟩) a b = some (mq (.str (Str.ofString ".it's.B") t) a 7, Pure.pure (.done (.ret (.ref b)))) := by kernel_rfl
theorem look_t2 (P : Params) (S : Setting) (t : Tok) (a b : Addr) : peek2 (K P) S (Builtin.«re.Pattern.search» ⟨[.ref 68, .str (Str.ofString "it's.b") t], []⟩) a b = some (mq (.str (Str.ofString "it's.b") t) a 6, Pure.pure (.done (.ret (.ref b)))) := by kernel_rfl
section
variable {C : Cx} {L : Loc} {n : Led} {Q : Value → Loc → Led → Prop}
theorem W.findNo {x : Str} {t : Tok} (ok : Ok C) (hl : ∀ h, (K C.w.params).In h → Looks (model P0 C.w) h (Builtin.«re.Pattern.search» ⟨[.ref 68, .str x t], []⟩) (.done (.ret .none))) (h : Q .none L n) : W C (call (.ref 771) [.str x t]) L n Q :=
  W.call771 ok fun R E' A' s hs k => (hl _ (ok.k.keeps hs.fr.keep)).here ⟨_, rfl, k _ _ _ _ hs h⟩
theorem W.findYes {x : Str} {t : Tok} {mo : Addr → Obj} (ok : Ok C) (hmo : ∀ c, (mo c).isFreed = false) (hp : ∀ P S c b, peek2 (K P) S (Builtin.«re.Pattern.search» ⟨[.ref 68, .str x t], []⟩) c b = some (mo c, Pure.pure (.done (.ret (.ref b))))) (h : ∀ b n', Q (.ref b) L n') : W C (call (.ref 771) [.str x t]) L n Q :=
  W.call771 ok fun R E' A' s hs k => by
    obtain ⟨p, e1, h1⟩ := Option.bind_eq_some_iff.mp (hp C.w.params ⟨P0, C.w.params⟩ 0 0)
    have hfr' : p.1.isFreed = false := by
      split at h1
      · cases h1
      · rename_i hfr; simpa using hfr
    have hq : ∀ c b, ∃ g, peekA (K C.w.params) ⟨P0, C.w.params⟩ (p.2 c) = some (mo c, g) ∧ g b = Pure.pure (.done (.ret (.ref b))) := fun c b => by
      have h2 := hp C.w.params ⟨P0, C.w.params⟩ c b
      unfold peek2 at h2
      rw [e1, Option.bind_some, hfr', if_neg (by decide)] at h2
      obtain ⟨q, e2, h2⟩ := Option.map_eq_some_iff.mp h2
      obtain ⟨h3, h4⟩ := Prod.mk.inj h2
      exact ⟨q.2, by rw [e2, ← h3], h4⟩
    refine wp_of_peekA (M := model P0 C.w) hs.fr hs.nw (ok.k.keeps hs.fr.keep) hfr' _ p.2 e1 fun h' F' N' hlt => ?_
    have hs1 : Sta C L ((s.heap.objs.size, p.1) :: n) { s with heap := h' } := ⟨F', N', hs.fresh (Nat.le_refl _), hs.gb, hs.os⟩
    obtain ⟨g, e2, e3⟩ := hq s.heap.objs.size h'.objs.size
    refine wp_of_peekA (M := model P0 C.w) hs1.fr hs1.nw (ok.k.keeps hs1.fr.keep) (hmo _) _ g e2 fun h2 F2 N2 hlt2 => ?_
    have hs2 : Sta C L ((h'.objs.size, mo s.heap.objs.size) :: (s.heap.objs.size, p.1) :: n) { s with heap := h2 } := ⟨F2, N2, hs1.fresh (Nat.le_refl _), hs.gb, hs.os⟩
    show wpAny _ _ (g h'.objs.size) _ _ _
    rw [e3]
    exact wpAny_pure ⟨_, rfl, k _ _ _ _ hs2 (h _ _)⟩
theorem seq1n {rest env} {QF : Flow → Loc → Led → Prop} (h : W1 C (execs rest env) L n QF) : Seq1 C env rest QF .next L n := h
theorem b778 {x q : Str} {t : Tok} (ok : Ok C) (hf : C.fn = f778) (hq : Quo x q) : W1 C (execs (bodyOf (stAt 31)) C.env) [some (.str x t)] n fun fl _ _ => ∃ t, retOf fl = .str q t := by
  have hns : C.fn.ns = [Str.ofString "s"] := congrArg Fn.ns hf
  have hgn : C.fn.gns = f778.gns := congrArg Fn.gns hf
  have hlen : (x.length : Int) ≠ 0 ∧ x.length ≤ 100 := by
    cases hq with
    | word p ha hb hc hd => exact ⟨by show ((5 : Nat) : Int) ≠ 0; decide, by show 5 ≤ 100; decide⟩
    | safe z hz =>
      have : ∀ z ∈ [".b", ".a.b", "a.b", ".7", "a.7", "B"], ((Str.ofString z).length : Int) ≠ 0 ∧ (Str.ofString z).length ≤ 100 := by decide +kernel
      exact this z hz
    | tick z q hz =>
      have : ∀ z ∈ [(".it's.B", "'.it'\"'\"'s.B'"), ("it's.b", "'it'\"'\"'s.b'")], ((Str.ofString z.1).length : Int) ≠ 0 ∧ (Str.ofString z.1).length ≤ 100 := by decide +kernel
      exact this _ hz
  obtain ⟨h0, hl⟩ := hlen
  conv => arg 2; arg 1; whnf
  refine W1.cons ?_
  walk_at "WS"
  refine iteF (by simpa using h0) ?_
  refine W.nil ?_
  refine seq1n ?_
  refine W1.cons ?_
  refine W.ifs ?_
  refine W.tcmp ?_
  refine W.callN ?_
  refine W.gl ok hgn (by walk_at "MEM") (gt_ufind_unsafe ok) ?_
  refine W.cw771 ok ?_
  walk_at "WS"
  cases hq with
  | word p ha hb hc hd =>
    refine W.findNo ok (fun h X => look_word X ha hb hc hd) ?_
    walk_at "WS"
    refine iteT rfl ?_
    walk_at "WS"
    exact ⟨_, rfl⟩
  | safe z hz =>
    refine W.findNo ok (fun h X => Looks.of_peek X (look_safe _ _ _ z hz)) ?_
    walk_at "WS"
    refine iteT rfl ?_
    walk_at "WS"
    exact ⟨_, rfl⟩
  | tick z q hz =>
    have hfin : ∀ n', W1 C (execs ((bodyOf (stAt 31)).drop 2) C.env) [some (.str (Str.ofString z) t)] n' fun fl _ _ => ∃ t, retOf fl = .str (Str.ofString q) t := fun n' => by
      conv => arg 2; arg 1; whnf
      refine W1.last ?_
      refine W1.binop ?_
      refine W1.binop ?_
      refine W.w1 ?_
      refine W.cstr fun t1 => ?_
      refine W1.mN fun pl => ?_
      refine W.nm ok hns (by walk_at "AT") ?_
      with_reducible refine W.getReplace ?_
      refine W1.rep fun u v hu hv huv => ?_
      refine W.replace hu hv huv (by decide +kernel) (by omega) (by decide +kernel) fun t2 => ?_
      have hr : ∀ z ∈ [(".it's.B", "'.it'\"'\"'s.B'"), ("it's.b", "'it'\"'\"'s.b'")], Str.ofString "'" ++ Txt.replace (Str.ofString z.1) (Str.ofString "'") (Str.ofString "'\"'\"'") ++ Str.ofString "'" = Str.ofString z.2 ∧ (Txt.replace (Str.ofString z.1) (Str.ofString "'") (Str.ofString "'\"'\"'")).length ≤ 100 := by decide +kernel
      obtain ⟨hr1, hr2⟩ := hr _ hz
      dsimp only at hr1 hr2
      have e1 : (Str.ofString "'").length = 1 := by decide +kernel
      refine W.adds (by rw [e1]; unfold sizeLine; omega) fun t3 => ?_
      refine W.w1 ?_
      refine W.cstr fun t4 => ?_
      refine W.adds (by rw [Str.length_append, e1]; unfold sizeLine; omega) fun t5 => ?_
      rw [hr1]
      exact ⟨_, rfl⟩
    simp only [List.mem_cons, List.not_mem_nil, or_false, Prod.mk.injEq] at hz
    rcases hz with ⟨rfl, rfl⟩ | ⟨rfl, rfl⟩
    · refine W.findYes ok (fun _ => rfl) (fun P S c b => look_t1 P S t c b) fun b n' => ?_
      walk_at "WS"
      refine iteF rfl ?_
      refine W.nil ?_
      exact seq1n (hfin _)
    · refine W.findYes ok (fun _ => rfl) (fun P S c b => look_t2 P S t c b) fun b n' => ?_
      walk_at "WS"
      refine iteF rfl ?_
      refine W.nil ?_
      exact seq1n (hfin _)
theorem s778 {w : World} {A : Around} {E : Value → Shared → Prop} {mg mb : Str → Option Value} {s : Shared} {x q : Str} {t : Tok} (hA : A.handled = none) (B : Base w mg mb s.heap) (hr : A.depth < 900) (hq : Quo x q) :
    wpAny (model P0 w) A (call (.ref 778) [.str x t]) (fun v s' => (∃ t, v = .str q t) ∧ Keeps s s') E s :=
  callKeeps (f := f778) (P := fun v => ∃ t, v = .str q t) hA B fo778 (by show _ < 1000; omega) (by kernel_rfl) rfl (by show 0 < 1; decide) fun C' ok' hf hw hd hu => b778 ok' hf hq
end
end
-- MJ1
section
set_option maxHeartbeats 0
set_option autoImplicit false
noncomputable abbrev tabO (ps : Array Value) : Obj := { cls := .none, data := .fields ps }
section
variable {C : Cx} {L : Loc} {n : Led} {Q : Value → Loc → Led → Prop}
theorem isCode769 {P : Params} {h : Heap} {ps : Array Value} (X : (K P).In h) (ht : h.get? 765 = some (tabO ps)) (hps : TriplesOk ps.toList) : h.IsCode 769 765 ps :=
  ⟨_, _, _, _, _, _, _, _, _, _, X 769 o769 (by kernel_rfl), rfl, rfl, rfl, rfl, rfl, rfl, ht, rfl, hps, by decide⟩
theorem tab769 {P : Params} {h : Heap} {ps : Array Value} (X : (K P).In h) (ht : h.get? 765 = some (tabO ps)) : h.TableAt 769 765 ps :=
  ⟨⟨_, _, X 769 o769 (by kernel_rfl), rfl, rfl, rfl⟩, ht⟩
/-- the code of the generator: found, or made and noted -/
theorem genCode {M : Model} {A : Around} {E : Value → Shared → Prop} {P : Params} {s : Shared} {env : Env} {ps : Array Value} {pos : Pos} {qn : Str} {scope : Scope} {R : Value → Shared → Prop} (X : (K P).In s.heap) (ht : s.heap.get? 765 = some (tabO ps)) (hps : TriplesOk ps.toList) (hc : env.code = .ref 769)
    (h : ∀ c' h' tk ps', TriplesOk ps'.toList → Heap.ExtBut 765 s.heap h' → s.heap.objs.size ≤ h'.objs.size → h'.get? 765 = some (tabO ps') → R c' { s with heap := h', toks := tk }) : wpAny M A (genexprCode env pos qn scope) R E s := by
  cases hq : codeAmong pos ps.toList with
  | some c' => exact wpAny_genexprCode_hit hc (isCode769 X ht hps) hq (h c' s.heap s.toks ps hps (fun _ _ _ e => e) (Nat.le_refl _) ht)
  | none =>
    refine wpAny_genexprCodeX hc (isCode769 X ht hps) (tab769 X ht) hq fun c' h' tk hx hge hlt hcode' _ htab' _ => h _ h' tk (ps ++ #[rawInt pos.line, rawInt pos.col, .ref c']) ?_ hx (Nat.le_trans hge (Nat.le_of_lt hlt)) htab'.2
    have : (ps ++ #[rawInt (pos.line : Int), rawInt (pos.col : Int), Value.ref c']).toList = ps.toList ++ [rawInt pos.line, rawInt pos.col, .ref c'] := by simp
    rw [this]
    exact TriplesOk_snoc _ _ _ _ hps
theorem quoteElt {w : World} {A' : Around} {E' : Value → Shared → Prop} {s₂ : Shared} {mg mb m₂ : Str → Option Value} {cenv : Env} {x q : Str} {t : Tok} {p1 p2 p3 : Pos} (hh : A'.handled = none) (hd : A'.depth < 890) (B : Base w mg mb s₂.heap) (hn : s₂.heap.Ns cenv.locals m₂) (hm : m₂ (Str.ofString "arg") = some (.str x t)) (hq : Quo x q)
    (hk : cenv.scope.kind = .function) (ha : cenv.kindOf (Str.ofString "arg") = some .local) (hg : cenv.kindOf (Str.ofString "quote") = some .globalImplicit) (hgl : cenv.globals = mainGlobals) :
    wpAny (model P0 w) A' (eval (.Call (.Name (Str.ofString "quote") p1) [.Name (Str.ofString "arg") p2] [] p3) cenv) (fun y s₃ => (∃ t, y = .str q t) ∧ Keeps s₂ s₃) E' s₂ := by
  have hv : mg (Str.ofString "quote") = some (.ref 778) := B.gt (Str.ofString "quote", some (.ref 778)) (List.mem_of_getElem? (i := 11) (by kernel_rfl))
  refine wpAny_Call_NameR (Name_function_global hk hg (loadGlobal_global (by rw [hgl]; exact B.g) hv ?_) (by decide +kernel))
  refine callWith_K (K := K w.params) (h₀ := s₂.heap) (first := []) B.k (fo778.keep _) (spliced_cons (wpAny_Name (wpAny_loadName_local hk ha hn hm ?_) (by decide +kernel))) rfl rfl
  exact spliced_nil ⟨B.k, s778 hh B (by omega) hq⟩
theorem All2.getD' {xs qs : List Str} {R : Str → Str → Prop} (h : All2 R xs qs) {i : Nat} {x : Str} (hx : xs[i]? = some x) : R x (qs.getD i Str.empty) := by
  obtain ⟨q, hq, r⟩ := h.get hx
  rw [List.getD_eq_getElem?_getD, hq]; exact r
theorem pass_all (k : Nat) : passing (fun _ => true) k 0 = List.range k := by simp [passing]
theorem s770 {Wd : Addr} {ws : List Value} {kk : Nat} {xs qs : List Str} {ps : Array Value} (ok : Ok C) (hgp : C.gp = fun g _ => AllBare g) (hr : C.A.depth < 880) (hW : (Wd, listOf ws.toArray kk) ∈ n) (hws : StrsAre ws xs) (hq : All2 Quo xs qs) (hlen : xs.length ≤ 16)
    (hjo : JoinOk (Str.ofString " ") qs = true) (hps : TriplesOk ps.toList)
    (h : ∀ t ps', TriplesOk ps'.toList → Q (.str (Txt.join (Str.ofString " ") qs) t) L ((765, tabO ps') :: n)) : W C (call (.ref 770) [.ref Wd]) L ((765, tabO ps) :: n) Q := by
  refine W.cfx (f := f770) [some (.ref Wd)] ok fo770 (by show _ < 1000; omega) (by kernel_rfl) rfl fun C' ok' hf hw hA hu henv hgp' hhid => ?_
  have hns : C'.fn.ns = [Str.ofString "split_command"] := congrArg Fn.ns hf
  have hdep : C'.A.depth = C.A.depth + 1 := by rw [hA]; rfl
  conv => arg 2; arg 1; whnf
  walk_at "WS"
  rename_i tsep
  with_reducible refine W.getJoin ?_
  intro s hs
  have X := ok'.k.keeps hs.fr.keep
  refine callWith_builtin rfl (evalArgs_plain (spliced_cons ?_))
  refine wpAny_GeneratorExp_walksQD (cl := []) ok'.hh rfl (by rw [henv]; kernel_rfl) (by decide +kernel) (by kernel_rfl) (by kernel_rfl) rfl (by show _ < 1000; omega) ?_ (by intro _; with_unfolding_all rfl)
  refine wpAny_mono (W.nm (Q := fun v L' n' => v = .ref Wd ∧ L' = [some (.ref Wd)] ∧ n' = (765, tabO ps) :: n) ok' hns (by walk_at "AT") ⟨rfl, rfl, rfl⟩ s hs) (fun v s₁ hv => ?_) fun _ _ e => e
  obtain ⟨L₁, n₁, hs₁, rfl, rfl, rfl⟩ := hv
  have hl := hs₁.isList (.tail _ hW)
  refine wpAny_pyIter_list hl ?_
  have hs₂ := hs₁.push { cls := .type "list_iterator", data := .fields #[.ref Wd, .int 0 0] }
  generalize hI : s₁.heap.objs.size = I at hs₂ ⊢
  have hIlt : ∀ p ∈ ((765, tabO ps) :: n) ++ C'.hid, p.1 < I := fun p hp => hI ▸ Heap.lt_size (hs₁.nw p hp).1
  have hWI : Wd ≠ I := Nat.ne_of_lt (hIlt _ (List.mem_append_left _ (.tail _ hW)))
  have hlocI : C'.loc < I := by obtain ⟨o, _, _, e, _⟩ := hs₁.fr.ns; exact hI ▸ Heap.lt_size e
  refine ⟨ok'.lim.keeps hs₂.fr.keep, genCode (ps := ps) (ok'.k.keeps hs₂.fr.keep) (hs₂.mem (p := (765, tabO ps)) (.tail _ (.head _))) hps (by rw [henv]; rfl) fun c' h' tk ps' hps' hx hsz ht' => ?_⟩
  have hs₃ := hs₂.chg (tk := tk) (n' := (I, { cls := .type "list_iterator", data := .fields #[.ref Wd, .int 0 0] }) :: (765, tabO ps') :: n) (.there .here) ht' (fun b x hb e => hx b x hb e)
  dsimp only at hs₃ ⊢
  obtain ⟨bm, ob, z⟩ := ok'.bm
  have zz := z.keeps hs₃.fr.keep
  have hlt' : I < h'.objs.size := Heap.lt_size (hs₃.mem (.head _))
  refine wpAny_builtinsFor (by rw [ok'.gl]; exact zz.ns) zz.name zz.ne zz.obj zz.cls zz.dict zz.data ?_
  refine ⟨I, [I, Wd], [I], ws.toArray.size, _, _, fun _ => true, fun i y => ∃ t, y = .str (qs.getD i Str.empty) t, rfl, fun A' hA' => Walks.list hA' I Wd hWI ws.toArray,
    ⟨⟨_, hs₃.mem (.head _), rfl, rfl⟩, hs₃.isList (.tail _ (.tail _ hW))⟩, ?_, ok'.lim.keeps hs₃.fr.keep, ?_, ?_, ?_⟩
  · intro b hb
    rcases List.mem_cons.mp hb with rfl | hb
    · exact hlt'
    · rcases List.mem_cons.mp hb with rfl | hb
      · exact Nat.lt_trans (hIlt _ (List.mem_append_left _ (.tail _ hW))) hlt'
      · cases hb
  · intro hm
    obtain ⟨_, ⟨o, _, _, e, _⟩, _⟩ := ok'.lim
    rcases List.mem_cons.mp hm with e2 | hb
    · have h1 := hs₁.fr.keep _ _ e
      have h2 := Heap.lt_size h1
      rw [hI, e2] at h2
      exact Nat.lt_irrefl _ h2
    · cases hb
  · intro href hhref
    refine ⟨fun A' E' i v s₆ m₂ _ _ _ _ _ _ _ => wpAny_pure ⟨rfl, s₆.heap, s₆.toks, rfl, fun _ _ e => e⟩, fun A' E' i v s₆ m₂ hA' hdd _ hP _ hn hm hk => ?_⟩
    have hv' : ws[i]? = some v := by simpa using hP
    obtain ⟨x, hxx⟩ : ∃ x, xs[i]? = some x := by
      have h1 := (List.getElem?_eq_some_iff.mp hv').1
      rw [hws.length] at h1
      exact ⟨xs[i], List.getElem?_eq_getElem h1⟩
    obtain ⟨t, ht⟩ := hws.get i x hxx
    rw [hv'] at ht
    cases ht
    have B : Base C'.w C'.mg C'.mb s₆.heap := ok'.base.keeps fun b o e => hk b (List.mem_range.mpr (Heap.lt_size (hs₃.fr.keep b o e))) (fun hmem => by
      rcases List.mem_cons.mp hmem with rfl | hb
      · rw [(hs₃.nw _ (List.mem_append_left _ (.head _))).2.2] at e; cases e
      · cases hb) o (hhref b o (hs₃.fr.keep b o e))
    exact quoteElt hA' (by omega) B hn hm (hq.getD' hxx) rfl rfl rfl (by show C'.env.globals = _; exact ok'.gl)
  intro a h₅ tk₅ gs hgb hag hsz₅ hk₅ W hat
  refine spliced_nil ?_
  have G₅ : AllBare (s₁.gens.push gs) := by
    have := hs₃.gb
    rw [hgp', hgp] at this
    exact AllBare.push this hgb
  have F₅ : Fr C'.h₀ C'.loc h₅ (look2 C'.fn.ns [some (.ref Wd)]) := hs₃.fr.keeps hk₅
  have X₅ : Gen P0 C'.w C'.A (I - 1) a (passing (fun _ => true) ws.toArray.size 0).length (fun j y => ∃ i, (passing (fun _ => true) ws.toArray.size 0)[j]? = some i ∧ ∃ t, y = Value.str (qs.getD i Str.empty) t) { heap := h₅, gens := s₁.gens.push gs, drawn := s₁.drawn, toks := tk₅, os := s₁.os } := by
    refine ⟨_, _, _, _, W, hat, (fun i s' st => st.1.typeIs), List.mem_cons_self, ?_, ?_⟩
    · intro b hb
      show b < h₅.objs.size
      rw [hsz₅]
      rcases List.mem_cons.mp hb with rfl | hb
      · exact Nat.lt_succ_self _
      · rcases List.mem_cons.mp hb with rfl | hb
        · exact Nat.lt_succ_of_lt hag
        · exact Nat.lt_succ_of_lt (Nat.lt_trans (List.mem_range.mp hb) hag)
    · intro b hb
      rcases List.mem_cons.mp hb with rfl | hb
      · exact Nat.lt_of_le_of_lt (Nat.sub_le _ _) hlt'
      · rcases List.mem_cons.mp hb with rfl | hb
        · exact Nat.sub_lt (Nat.lt_of_le_of_lt (Nat.zero_le _) hlocI) Nat.one_pos
        · cases hb
  have hwl : ws.toArray.size = qs.length := by rw [List.size_toArray, hws.length, hq.len]
  have hmap : (List.range (passing (fun _ => true) ws.toArray.size 0).length).map (fun j => qs.getD j Str.empty) = qs := by
    rw [pass_all, List.length_range, hwl]
    exact range_getD qs Str.empty
  refine join_rowsK (h₀ := C'.h₀) (L := C'.loc) (K := I - 1) F₅ G₅ X₅ (Nat.le_sub_one_of_lt hlocI) (fun j => qs.getD j Str.empty) ?_ (by rw [hmap]; exact hjo) ?_ ?_
  · rintro j v ⟨i, hi, t, rfl⟩
    rw [pass_all] at hi
    have : i = j := by
      have h1 := List.getElem?_eq_some_iff.mp hi
      obtain ⟨h2, h3⟩ := h1
      simpa using h3.symm
    exact ⟨t, by rw [this]⟩
  · intro s' t' F' G' os' hk'
    rw [hmap]
    refine ⟨[some (.ref Wd)], (765, tabO ps') :: n, ⟨F', fun p hp => ?_, ?_, ?_, ?_⟩, ?_⟩
    · have h1 := hs₃.nw p (.tail _ hp)
      have h2 : p.1 < I := by
        rcases List.mem_append.mp hp with hp | hp
        · cases hp with
          | head => exact hIlt (765, tabO ps) (List.mem_append_left _ (.head _))
          | tail _ hp => exact hIlt p (List.mem_append_left _ (.tail _ hp))
        · exact hIlt p (List.mem_append_right _ hp)
      exact ⟨hk' _ _ (Nat.le_sub_one_of_lt h2) (hk₅ _ _ h1.1), h1.2⟩
    · have := hs₃.nd
      rw [List.cons_append, List.map_cons, List.nodup_cons] at this
      exact this.2
    · rw [hgp', hgp]; exact G'
    · exact os'.trans hs₃.os
    · exact h _ _ hps'
  · rw [pass_all, List.length_range, List.size_toArray, hws.length]; unfold sizeLine; omega
end
end
-- MP1
section
set_option maxHeartbeats 0
set_option autoImplicit false
inductive Tail : List Nat → Option Str → List Nat → Prop
  | eof : Tail [] none []
  | ws (r : List Nat) : Tail (32 :: r) (some spS) r
theorem runTail {tok : Str} {q : Bool} {tl : List Nat} {st : Option Str} {rest : List Nat} (ht : (tok.length : Int) ≠ 0) (h : Tail tl st rest) : Run (some (Str.ofString "a")) tok q tl ⟨tok, q, st, rest⟩ := by
  cases h with
  | eof => exact .aEof
  | ws r => exact .aWs ht
theorem str_snoc (t : Str) (c : Nat) (cs : List Nat) : (t ++ ch c) ++ (⟨cs.toArray⟩ : Str) = t ++ (⟨(c :: cs).toArray⟩ : Str) := by
  have h : ∀ a b : Str, (a ++ b).cps = a.cps ++ b.cps := fun _ _ => rfl
  have e : ∀ a b : Str, a.cps = b.cps → a = b := fun a b h => by cases a; cases b; exact congrArg Str.mk h
  apply e
  rw [h, h, h]
  show (t.cps ++ #[c]) ++ cs.toArray = t.cps ++ (c :: cs).toArray
  rw [Array.append_assoc]
  congr 1
  simp
theorem runPlain {q : Bool} {tl : List Nat} {st : Option Str} {rest : List Nat} (h : Tail tl st rest) : ∀ (cs : List Nat) (tok : Str), (∀ c ∈ cs, PlainC c) → (tok.length : Int) ≠ 0 → Run (some (Str.ofString "a")) tok q (cs ++ tl) ⟨tok ++ ⟨cs.toArray⟩, q, st, rest⟩
  | [], tok, _, ht => by
    have e : tok ++ (⟨([] : List Nat).toArray⟩ : Str) = tok := by cases tok; exact congrArg Str.mk (by simp)
    rw [e]
    exact runTail ht h
  | c :: cs, tok, hc, ht => by
    refine .aPut (hc c (.head _)) ?_
    have := runPlain (q := q) h cs (tok ++ ch c) (fun x hx => hc x (.tail _ hx)) (by rw [Str.length_append]; show ((tok.length + 1 : Nat) : Int) ≠ 0; omega)
    rw [str_snoc] at this
    exact this
noncomputable def WordRun (x : Str) (cs : List Nat) : Prop := ∀ tl st rest, Tail tl st rest → ∃ q, Run (some spS) (Str.ofString "") false (cs ++ tl) ⟨x, q, st, rest⟩
theorem wordPlain {c : Nat} {cs : List Nat} (h : ∀ x ∈ c :: cs, PlainC x) : WordRun ⟨(c :: cs).toArray⟩ (c :: cs) := fun tl st rest ht => ⟨false, by
  refine .sPut (h c (.head _)) ?_
  have := runPlain (q := false) ht cs (ch c) (fun x hx => h x (.tail _ hx)) (by show ((1 : Nat) : Int) ≠ 0; decide)
  have e : ch c ++ (⟨cs.toArray⟩ : Str) = ⟨(c :: cs).toArray⟩ := congrArg Str.mk (by simp)
  rw [e] at this
  exact this⟩
theorem plain_all : ∀ c ∈ [43, 45, 46, 47, 48, 49, 50, 51, 52, 53, 54, 55, 97, 98, 66, 105, 116, 115], PlainC c := by
  have key : ∀ c ∈ [43, 45, 46, 47, 48, 49, 50, 51, 52, 53, 54, 55, 97, 98, 66, 105, 116, 115], hasC wsS (ch c) = false ∧ hasC qsS (ch c) = false ∧ hasC bsS (ch c) = false ∧ hasC (Str.ofString "") (ch c) = false ∧ c ≠ 10 := by decide +kernel
  exact fun c hc => let ⟨a, b, d, e, f⟩ := key c hc; ⟨a, b, d, e, f⟩
theorem plain_dig {d : Nat} (h : d < 8) : PlainC (48 + d) := plain_all _ (by
  have : ∀ d : _root_.Fin 8, 48 + (d : Nat) ∈ [43, 45, 46, 47, 48, 49, 50, 51, 52, 53, 54, 55, 97, 98, 66, 105, 116, 115] := by decide
  exact this ⟨d, h⟩)
theorem tick1 {tl : List Nat} {st : Option Str} {rest : List Nat} (h : Tail tl st rest) : Run (some spS) (Str.ofString "") false ([39, 46, 105, 116, 39, 34, 39, 34, 39, 115, 46, 66, 39] ++ tl) ⟨(Str.ofString "") ++ ch 46 ++ ch 105 ++ ch 116 ++ ch 39 ++ ch 115 ++ ch 46 ++ ch 66, true, st, rest⟩ := by
  refine .sQuo quo39 (.qPut quo39 (by decide) (by decide) (by decide +kernel) (.qPut quo39 (by decide) (by decide) (by decide +kernel) (.qPut quo39 (by decide) (by decide) (by decide +kernel) (.qEnd quo39 ?_))))
  refine .aQuo quo34 (.qPut quo34 (by decide) (by decide) (by decide +kernel) (.qEnd quo34 ?_))
  refine .aQuo quo39 (.qPut quo39 (by decide) (by decide) (by decide +kernel) (.qPut quo39 (by decide) (by decide) (by decide +kernel) (.qPut quo39 (by decide) (by decide) (by decide +kernel) (.qEnd quo39 ?_))))
  exact runTail (by decide +kernel) h
theorem tick2 {tl : List Nat} {st : Option Str} {rest : List Nat} (h : Tail tl st rest) : Run (some spS) (Str.ofString "") false ([39, 105, 116, 39, 34, 39, 34, 39, 115, 46, 98, 39] ++ tl) ⟨(Str.ofString "") ++ ch 105 ++ ch 116 ++ ch 39 ++ ch 115 ++ ch 46 ++ ch 98, true, st, rest⟩ := by
  refine .sQuo quo39 (.qPut quo39 (by decide) (by decide) (by decide +kernel) (.qPut quo39 (by decide) (by decide) (by decide +kernel) (.qEnd quo39 ?_)))
  refine .aQuo quo34 (.qPut quo34 (by decide) (by decide) (by decide +kernel) (.qEnd quo34 ?_))
  refine .aQuo quo39 (.qPut quo39 (by decide) (by decide) (by decide +kernel) (.qPut quo39 (by decide) (by decide) (by decide +kernel) (.qPut quo39 (by decide) (by decide) (by decide +kernel) (.qEnd quo39 ?_))))
  exact runTail (by decide +kernel) h
theorem Quo.run {x y : Str} (h : Quo x y) : WordRun x y.cps.toList := by
  cases h with
  | word p ha hb hc hd =>
    refine wordPlain (c := if p then 43 else 45) (cs := [48 + _, 48 + _, 48 + _, 48 + _]) fun z hz => ?_
    simp only [List.mem_cons, List.not_mem_nil, or_false] at hz
    rcases hz with rfl | rfl | rfl | rfl | rfl
    · cases p <;> exact plain_all _ (by decide)
    · exact plain_dig ha
    · exact plain_dig hb
    · exact plain_dig hc
    · exact plain_dig hd
  | safe z hz =>
    have key : ∀ z ∈ [".b", ".a.b", "a.b", ".7", "a.7", "B"], (Str.ofString z).cps.toList ≠ [] ∧ ∀ c ∈ (Str.ofString z).cps.toList, c ∈ [43, 45, 46, 47, 48, 49, 50, 51, 52, 53, 54, 55, 97, 98, 66, 105, 116, 115] := by decide +kernel
    obtain ⟨k1, k2⟩ := key z hz
    have k2 : ∀ c ∈ (Str.ofString z).cps.toList, PlainC c := fun c hc => plain_all c (k2 c hc)
    have e : Str.ofString z = ⟨(Str.ofString z).cps.toList.toArray⟩ := by cases Str.ofString z; rfl
    revert k1 k2 e
    generalize Str.ofString z = s
    intro k1 k2 e
    cases q : s.cps.toList with
    | nil => exact absurd q k1
    | cons c cs =>
      rw [e, q]
      rw [q] at k2
      exact wordPlain k2
  | tick z q hz =>
    intro tl st rest ht
    simp only [List.mem_cons, List.not_mem_nil, or_false, Prod.mk.injEq] at hz
    rcases hz with ⟨rfl, rfl⟩ | ⟨rfl, rfl⟩
    · exact ⟨true, tick1 ht⟩
    · exact ⟨true, tick2 ht⟩
theorem Quo.ne {x y : Str} (h : Quo x y) : (x.cps.toList == (Str.ofString "").cps.toList) = false := by
  cases h with
  | word p ha hb hc hd => rfl
  | safe z hz =>
    have key : ∀ z ∈ [".b", ".a.b", "a.b", ".7", "a.7", "B"], ((Str.ofString z).cps.toList == (Str.ofString "").cps.toList) = false := by decide +kernel
    exact key z hz
  | tick z q hz =>
    have key : ∀ z ∈ [(".it's.B", "'.it'\"'\"'s.B'"), ("it's.b", "'it'\"'\"'s.b'")], ((Str.ofString z.1).cps.toList == (Str.ofString "").cps.toList) = false := by decide +kernel
    exact key _ hz
theorem join1 (y : Str) : (Txt.join (Str.ofString " ") [y]).cps.toList = y.cps.toList := rfl
theorem join2 (y z : Str) (r : List Str) : (Txt.join (Str.ofString " ") (y :: z :: r)).cps.toList = y.cps.toList ++ 32 :: (Txt.join (Str.ofString " ") (z :: r)).cps.toList := by
  have g : ∀ l, Txt.join (Str.ofString " ") l = Str.join (Str.ofString " ") l := fun l => StrLaws.glued_eq_join _ l
  rw [g, g]
  show ((y.cps ++ (Str.ofString " ").cps) ++ (Str.join (Str.ofString " ") (z :: r)).cps).toList = _
  rw [show (Str.ofString " ").cps = #[32] by decide +kernel]
  simp
theorem lexes_join : ∀ {xs ys : List Str}, All2 Quo xs ys → Lexes (some spS) (Txt.join (Str.ofString " ") ys).cps.toList xs
  | _, _, .nil => .done (f := ⟨Str.ofString "", false, none, []⟩) .sEof rfl rfl
  | _, _, .cons (a := x) (b := y) (l := xs) (m := ys) h hr => by
    cases hr with
    | nil =>
      rw [join1]
      obtain ⟨q, hq⟩ := h.run [] none [] .eof
      rw [List.append_nil] at hq
      exact .more hq h.ne (.done (f := ⟨Str.ofString "", false, none, []⟩) .nEof rfl rfl)
    | cons h2 hr2 =>
      rw [join2]
      obtain ⟨q, hq⟩ := h.run _ _ _ (.ws _)
      exact .more hq h.ne (lexes_join (.cons h2 hr2))
end
-- MLw1
section
set_option maxHeartbeats 0
set_option autoImplicit false
theorem host_facts : ∀ i : _root_.Fin 6, (hostL.getD i []).length ≤ 8 ∧ (∀ s ∈ hostL.getD i [], (Str.ofString s).length ≤ 100) ∧ Txt.lower (Txt.join (Str.ofString ".") ((hostL.getD i []).map Str.ofString)) = Str.ofString (hostLow.getD i "") ∧ hostLow.getD i "" ∈ ipNo ++ ipYes ∧ hostLow.getD i "" ∈ hostLow ∧ (Txt.join (Str.ofString ".") ((hostL.getD i []).map Str.ofString)).length ≤ 100 ∧
    (((hostL.getD i []).map Str.ofString).map (·.length)).sum + ((hostL.getD i []).map Str.ofString).length * (Str.ofString ".").length ≤ 16777216 := by decide +kernel
theorem short_len (rs : List Rule) : (shortR rs).length ≤ rs.length := by
  induction rs with
  | nil => exact Nat.le_refl _
  | cons r rs ih =>
    show (if rs.any (covR r) then shortR rs else r :: shortR rs).length ≤ _
    split
    · exact Nat.le_trans ih (Nat.le_succ _)
    · simp only [List.length_cons]; omega
section
variable {C : Cx} {L : Loc} {n : Led} {Q : Value → Loc → Led → Prop} {QF : Flow → Loc → Led → Prop}
theorem W.itemA {value slice l k u x} {xs : List Value} {m : Nat} (hl : (l, listOf xs.toArray m) ∈ n) (h0 : 0 ≤ k) (hk : k < 2 ^ 62) (hx : xs[k.toNat]? = some x) (h : Q x L n)
    (hs : subscripted slice false (.ref l) (.int k u) = operate [.ref l, .int k u] (getItem (.ref l) (.int k u)) := by with_unfolding_all rfl) : W C (subscriptTail value slice (.ref l) (.int k u)) L n Q := fun s hs' =>
  kba_turn (value' := .Name (Str.ofString "x") default) (fun _ => rfl) (W.item (value := .Name (Str.ofString "x") default) hl h0 hk hx h hs (fun _ => rfl) s hs')
theorem lawLoop {Sc R Wd Sd : Addr} {f : Int} {h : Nat} {tf ts : Tok} {vs ws ss : List Value} {kr kw ks : Nat} {rs : List Rule} (ok : Ok C) (hE : C.E = fun _ _ => False) (hf : C.fn = f887) (hr : C.A.depth < 800) (hu9 : C.A.units < 6000) (h16 : h < 65536)
    (hR : (R, listOf vs.toArray kr) ∈ n) (hrs : All2 (RuleIn n) vs rs) (hok : ∀ r ∈ rs, RuleOk r) (hlen : rs.length ≤ 8) (hW : (Wd, listOf ws.toArray kw) ∈ n) (hws : StrsAre ws (wordsS rs)) (hS : (Sd, listOf ss.toArray ks) ∈ n) (hss : StrsAre ss (wordsS (shortR rs)))
    (hq : ∀ L' n', QF (.ret (.bool true)) L' (n' ++ n)) :
    W C (execs ((bodyOf (stAt 65)).drop 5) C.env) [some (.ref Sc), some (.int f tf), some (.int h ts), some (.ref R), some (.ref Wd), some (.ref Sd), none, none, none, none] n QF := by
  have hns : C.fn.ns = [Str.ofString "script", Str.ofString "first", Str.ofString "start", Str.ofString "rules", Str.ofString "words", Str.ofString "short", Str.ofString "place", Str.ofString "labels", Str.ofString "host", Str.ofString "held"] := congrArg Fn.ns hf
  have hgn : C.fn.gns = f887.gns := congrArg Fn.gns hf
  conv => arg 2; arg 1; whnf
  refine W.cons ?_
  refine W.forI ok hE ?_
  walk_at "WS"
  refine W.mod (by decide) fun t1 => ?_
  walk_at "WS"
  refine W.fdiv (by decide) (PyProof.noPylong_small (by decide)) fun t2 => ?_
  walk_at "WS"
  refine W.mod (by decide) fun t3 => ?_
  walk_at "WS"
  rename_i Pl
  refine W.iterL ok (.head _) fun I o ho It => ?_
  refine ⟨I, _, _, _, _, fun i L n2 => ∃ a b c d m, L = [some (.ref Sc), some (.int f tf), some (.int h ts), some (.ref R), some (.ref Wd), some (.ref Sd), a, b, c, d] ∧ n2 = m ++ ((Pl, listOf #[.int (f.fmod 6) t1, .int ((f.fdiv 6).fmod 6) t3] 0) :: n), [(I, o)], _, rfl, rfl, It, ⟨o, rfl, ho⟩, ⟨_, _, _, _, [], rfl, rfl⟩, ?_, ?_, ?_⟩
  · rintro i L2 n2 ⟨a, b, c, d, m, rfl, rfl⟩
    exact List.mem_append_right _ (.head _)
  · rintro L2 n2 ⟨a, b, c, d, m, rfl, rfl⟩
    walk_at "WS"
    have := hq [some (.ref Sc), some (.int f tf), some (.int h ts), some (.ref R), some (.ref Wd), some (.ref Sd), a, b, c, d] (m ++ [(Pl, listOf #[.int (f.fmod 6) t1, .int ((f.fdiv 6).fmod 6) t3] 0)])
    rw [List.append_assoc] at this
    exact this
  · rintro C2 hid ok2 i v q L2 n2 hi ⟨rfl, hv⟩ ⟨a, b, c, d, m, rfl, rfl⟩
    have hns2 : C2.fn.ns = [Str.ofString "script", Str.ofString "first", Str.ofString "start", Str.ofString "rules", Str.ofString "words", Str.ofString "short", Str.ofString "place", Str.ofString "labels", Str.ofString "host", Str.ofString "held"] := (congrArg Fn.ns hid.fn).trans hns
    have hgn2 : C2.fn.gns = f887.gns := (congrArg Fn.gns hid.fn).trans hgn
    have hr2 : C2.A.depth < 800 := by rw [hid.A]; exact hr
    have hu2 : C2.A.units < 6000 := by rw [hid.A]; exact hu9
    obtain ⟨p, tp, rfl, hp6⟩ : ∃ (p : Nat) (tp : Tok), v = .int (p : Int) tp ∧ p < 6 := by
      have hfm : ∀ z : Int, 0 ≤ z.fmod 6 ∧ z.fmod 6 < 6 := fun z => by rw [Int.fmod_eq_emod_of_nonneg _ (by decide)]; omega
      match i, hi, hv with
      | 0, _, hv =>
        have e : Value.int (f.fmod 6) t1 = v := by simpa using hv
        exact ⟨(f.fmod 6).toNat, t1, by rw [← e, Int.toNat_of_nonneg (hfm f).1], by have := hfm f; omega⟩
      | 1, _, hv =>
        have e : Value.int ((f.fdiv 6).fmod 6) t3 = v := by simpa using hv
        exact ⟨((f.fdiv 6).fmod 6).toNat, t3, by rw [← e, Int.toNat_of_nonneg (hfm _).1], by have := hfm (f.fdiv 6); omega⟩
      | i + 2, hi, _ => exact absurd hi (by simp)
    generalize hB : m ++ ((Pl, listOf #[.int (f.fmod 6) t1, .int ((f.fdiv 6).fmod 6) t3] 0) :: n) = B
    have hnB : ∀ z ∈ n, z ∈ B := fun z hz => hB ▸ List.mem_append_right _ (.tail _ hz)
    have hfc := host_facts ⟨p, hp6⟩
    obtain ⟨f1, f2, f3, f4, f5, f6, f7⟩ := hfc
    dsimp only at f1 f2 f3 f4 f5 f6 f7
    refine W.asgN ?_
    walk_at "WS"
    refine W.subs ?_
    walk_at "WS"
    refine W.gl ok2 hgn2 (by walk_at "MEM") (gt_ulaw_hosts ok2) ?_
    refine W.cw0 ok2 (fo846.keep _) ?_
    refine s846 ok2 (by omega) fun Z n5 hv5 k5 hZ hall => ?_
    walk_at "WS"
    obtain ⟨lv, hlv, l, rfl, hst⟩ := hall.get' (i := p) (b := hostL.getD p []) (by
      have : p < hostL.length := hp6
      rw [List.getElem?_eq_getElem this, List.getD_eq_getElem?_getD, List.getElem?_eq_getElem this]; rfl)
    obtain ⟨us, ku, hl5, hus⟩ := hst
    refine W.itemA (List.mem_append_left _ hZ) (by omega) (by omega) (by simpa using hlv) ?_
    walk_at "WS"
    with_reducible refine W.getJoin ?_
    refine W.cbm ?_
    walk_at "WS"
    refine W.joinL (List.mem_append_left _ hl5) (by simpa using hus) f7 fun t6 => ?_
    walk_at "WS"
    refine W.gl ok2 hgn2 (by walk_at "MEM") (gt_ulaw_led ok2) ?_
    refine W.cw ok2 (fo867.keep _) ?_
    walk_at "WS"
    refine s867 (hl := hostLow.getD p "") ok2 (by omega) (List.mem_append_right _ (hnB _ hW)) hws hok hlen f3 f4 f6 fun n7 t7 => ?_
    walk_at "WS"
    refine W.gl ok2 hgn2 (by walk_at "MEM") (gt_filemode ok2) ?_
    refine W.cw ok2 (fo832.keep _) ?_
    walk_at "WS"
    refine s832 ok2 (by omega) fun n8 t8 => ?_
    walk_at "WS"
    refine W.gl ok2 hgn2 (by walk_at "MEM") (gt_ulaw_listing ok2) ?_
    refine W.cw ok2 (fo882.keep _) ?_
    walk_at "WS"
    have hin : ∀ z ∈ B, z ∈ n8 ++ (n7 ++ (n5 ++ ([] ++ B))) := fun z hz => List.mem_append_right _ (List.mem_append_right _ (List.mem_append_right _ hz))
    refine s882 (rs := rs) (host := hostL.getD p []) ok2 (by omega) (by omega) (List.mem_append_right _ (List.mem_append_right _ (List.mem_append_left _ hl5))) hus f1 f2 (hin _ (hnB _ hR)) (hrs.mono fun _ _ x => x.mono fun z hz => hin z (hnB z hz)) hok hlen (by omega) (by omega) fun n9 t9 => ?_
    walk_at "WS"
    refine iteF (by rw [law_list ⟨p, hp6⟩ hok h16]; exact bne_self_eq_false _) ?_
    walk_at "WS"
    refine W.gl ok2 hgn2 (by walk_at "MEM") (gt_ulaw_led ok2) ?_
    refine W.cw ok2 (fo867.keep _) ?_
    walk_at "WS"
    refine s867 (rs := shortR rs) (hl := hostLow.getD p "") ok2 (by omega) (List.mem_append_right _ (hin _ (hnB _ hS))) hss (short_ok hok) (Nat.le_trans (short_len rs) hlen) f3 f4 f6 fun n10 t10 => ?_
    walk_at "WS"
    refine iteF (by rw [led_short f5 hok h16]; exact bne_self_eq_false _) ?_
    walk_at "WS"
    refine ⟨_, _, _, _, n10 ++ (n9 ++ (n8 ++ (n7 ++ (n5 ++ m)))), rfl, ?_⟩
    rw [← hB]
    simp only [List.append_assoc, List.nil_append]
end
end
-- MLw2
section
set_option maxHeartbeats 0
set_option autoImplicit false
noncomputable def ruleOf (x : Int) : Rule := ⟨x.fmod 2 == 0, ((x.fdiv 2).fmod 8).toNat, ((73 + x.fdiv 16 * 585).fmod 4096).toNat⟩
theorem ruleOf_ok (x : Int) : RuleOk (ruleOf x) := by
  have h1 : 0 ≤ (x.fdiv 2).fmod 8 ∧ (x.fdiv 2).fmod 8 < 8 := by rw [Int.fmod_eq_emod_of_nonneg _ (by decide)]; omega
  have h2 : 0 ≤ (73 + x.fdiv 16 * 585).fmod 4096 ∧ (73 + x.fdiv 16 * 585).fmod 4096 < 4096 := by rw [Int.fmod_eq_emod_of_nonneg _ (by decide)]; omega
  exact ⟨by show ((x.fdiv 2).fmod 8).toNat < 8; omega, by show ((73 + x.fdiv 16 * 585).fmod 4096).toNat < 4096; omega⟩
theorem ruleOf_place (x : Int) : (((ruleOf x).place : Nat) : Int) = (x.fdiv 2).fmod 8 := by
  show ((((x.fdiv 2).fmod 8).toNat : Nat) : Int) = _
  rw [Int.toNat_of_nonneg]; rw [Int.fmod_eq_emod_of_nonneg _ (by decide)]; omega
theorem ruleOf_mask (x : Int) : (((ruleOf x).mask : Nat) : Int) = (73 + x.fdiv 16 * 585).fmod 4096 := by
  show ((((73 + x.fdiv 16 * 585).fmod 4096).toNat : Nat) : Int) = _
  rw [Int.toNat_of_nonneg]; rw [Int.fmod_eq_emod_of_nonneg _ (by decide)]; omega
noncomputable def wordsQ (rs : List Rule) : List Str := rs.flatMap fun r => [signS r.plus ++ figS r.mask, Str.ofString (zq.getD r.place "")]
theorem zone_quo : ∀ z : _root_.Fin 8, (zraw.getD z "" ∈ [".b", ".a.b", "a.b", ".7", "a.7", "B"] ∧ zq.getD z "" = zraw.getD z "") ∨ (zraw.getD z "", zq.getD z "") ∈ [(".it's.B", "'.it'\"'\"'s.B'"), ("it's.b", "'it'\"'\"'s.b'")] := by decide +kernel
theorem quo_words : ∀ (rs : List Rule), (∀ r ∈ rs, RuleOk r) → All2 Quo (wordsS rs) (wordsQ rs)
  | [], _ => .nil
  | r :: rs, h => by
    have ih := quo_words rs fun x hx => h x (.tail _ hx)
    have hr := h r (.head _)
    have hm := hr.mask
    refine .cons ?_ (.cons ?_ ih)
    · rw [word_chars hm]
      exact .word r.plus (by omega) (by omega) (by omega) (by omega)
    · have e := zraw_eq ⟨r.place, hr.place⟩
      dsimp only at e
      rw [e]
      rcases zone_quo ⟨r.place, hr.place⟩ with ⟨h1, h2⟩ | h1
      · dsimp only at h1 h2
        rw [h2]; exact .safe _ h1
      · exact .tick _ _ h1
theorem zq_len : ∀ z : _root_.Fin 8, (Str.ofString (zq.getD z "")).length ≤ 20 := by decide +kernel
theorem wordsQ_lens {rs : List Rule} (h : ∀ r ∈ rs, RuleOk r) : ∀ x ∈ wordsQ rs, x.length ≤ 20 := by
  intro x hx
  obtain ⟨r, hr, hx⟩ := List.mem_flatMap.mp hx
  simp only [List.mem_cons, List.not_mem_nil, or_false] at hx
  rcases hx with rfl | rfl
  · rw [word_len (h r hr).mask]; decide
  · exact zq_len ⟨r.place, (h r hr).place⟩
theorem fold_le : ∀ (l : List Str) (a : Nat), (∀ x ∈ l, x.length ≤ 20) → l.foldl (· + ·.length + (Str.ofString " ").length) a ≤ a + 21 * l.length
  | [], a, _ => by simp
  | x :: l, a, h => by
    have e : (Str.ofString " ").length = 1 := by decide +kernel
    rw [List.foldl_cons]
    have ih := fold_le l (a + x.length + (Str.ofString " ").length) fun y hy => h y (.tail _ hy)
    have hx := h x (.head _)
    rw [List.length_cons]
    omega
theorem joinOk_words {l : List Str} (h : ∀ x ∈ l, x.length ≤ 20) (hl : l.length ≤ 16) : JoinOk (Str.ofString " ") l = true := by
  unfold JoinOk Builtin.Str.tooLong
  have := fold_le l 0 h
  rw [← Array.foldl_toList]
  simp only [Bool.not_eq_true']
  refine decide_eq_false ?_
  unfold sizeLine
  omega
theorem sum_le20 : ∀ (l : List Str), (∀ x ∈ l, x.length ≤ 20) → (l.map (·.length)).sum ≤ 20 * l.length
  | [], _ => by simp
  | x :: l, h => by
    have ih := sum_le20 l fun y hy => h y (.tail _ hy)
    have hx := h x (.head _)
    simp only [List.map_cons, List.sum_cons, List.length_cons]
    omega
theorem join_le {l : List Str} (h : ∀ x ∈ l, x.length ≤ 20) (hl : l.length ≤ 16) : (Txt.join (Str.ofString " ") l).length ≤ 90000 := by
  rw [show Txt.join (Str.ofString " ") l = Str.join (Str.ofString " ") l from StrLaws.glued_eq_join _ l]
  have h1 := StrLaws.join_length_le (Str.ofString " ") l
  have h2 := sum_le20 l h
  have e : (Str.ofString " ").length = 1 := by decide +kernel
  rw [e] at h1
  omega
theorem words_lenQ (rs : List Rule) : (wordsQ rs).length = 2 * rs.length := by
  unfold wordsQ
  induction rs with
  | nil => rfl
  | cons r rs ih => rw [List.flatMap_cons, List.length_append, ih, List.length_cons]; simp; omega
section
variable {C : Cx} {L : Loc} {n : Led} {Q : Value → Loc → Led → Prop} {QF : Flow → Loc → Led → Prop}
/-- x = split(join_shlex(y)) behind the words -/
theorem W.joinSplit {Wd : Addr} {ws : List Value} {kk : Nat} {rs : List Rule} {ps : Array Value} {pos env} (ok : Ok C) (hgp : C.gp = fun g _ => AllBare g) (hfr : C.A.frames = some [C.env]) (hCf : C.env.frame = some C.loc) (hr : C.A.depth < 790) (hW : (Wd, listOf ws.toArray kk) ∈ n) (hws : StrsAre ws (wordsS rs)) (hok : ∀ r ∈ rs, RuleOk r) (hlen : rs.length ≤ 8) (hps : TriplesOk ps.toList)
    (h : ∀ ps' S acc c n', TriplesOk ps'.toList → (S, listOf (List.toArray acc) c) ∈ n' → StrsAre acc (wordsS rs) → Q (.ref S) L (n' ++ ((765, tabO ps') :: n))) :
    W C (call (.ref 770) [.ref Wd]) L ((765, tabO ps) :: n) fun v L₁ n₁ => W C (spliced (backTo pos (starEach [] env))) L₁ n₁ fun vs L₂ n₂ => W C (call (.ref 763) (v :: vs)) L₂ n₂ Q := by
  have hq := quo_words rs hok
  have hl1 := wordsQ_lens hok
  have hl2 : (wordsQ rs).length ≤ 16 := by rw [words_lenQ]; omega
  refine s770 ok hgp (by omega) hW hws hq (by rw [words_len]; omega) (joinOk_words hl1 hl2) hps fun t ps' hps' => ?_
  refine W.spn ?_
  exact s763 ok hfr hCf (by omega) (lexes_join hq) (by rw [words_len]; omega) (join_le hl1 hl2) fun S acc c n' hS hacc => h ps' S acc c n' hps' hS hacc
noncomputable def IntsIn (vs : List Value) (xs : List Int) : Prop := All2 (fun (v : Value) (x : Int) => ∃ t, v = .int x t) vs xs
theorem W.pureB {Q : Bool → Loc → Led → Prop} {e} (h : Q true L n) : W C (compT [] e) L n Q := fun _ hs => wpAny_pure (⟨_, _, hs, h⟩ : ∃ L' n', _)
theorem lawRest {Sc : Addr} {vs : List Value} {kv : Nat} {xs : List Int} {f : Int} {tf : Tok} {ps : Array Value} (ok : Ok C) (hE : C.E = fun _ _ => False) (hf : C.fn = f887) (hgp : C.gp = fun g _ => AllBare g) (hfr : C.A.frames = some [C.env]) (hr : C.A.depth < 700) (hu9 : C.A.units < 5000)
    (hS : (Sc, listOf vs.toArray kv) ∈ n) (hvs : IntsIn vs xs) (hlen : xs.length ≤ 63) (hps : TriplesOk ps.toList) (henv : C.env = callEnv f887.fd C.loc f887.fa)
    (hq : ∀ L' n' ps', (765, tabO ps') ∈ n' → (∀ p ∈ n, p ∈ n') → QF (.ret (.bool true)) L' n') :
    W C (execs ((bodyOf (stAt 65)).drop 1) C.env) [some (.ref Sc), some (.int f tf), none, none, none, none, none, none, none, none] ((765, tabO ps) :: n) QF := by
  have hns : C.fn.ns = [Str.ofString "script", Str.ofString "first", Str.ofString "start", Str.ofString "rules", Str.ofString "words", Str.ofString "short", Str.ofString "place", Str.ofString "labels", Str.ofString "host", Str.ofString "held"] := congrArg Fn.ns hf
  have hgn : C.fn.gns = f887.gns := congrArg Fn.gns hf
  conv => arg 2; arg 1; whnf
  walk_at "WS"
  refine W.fdiv (by decide) (PyProof.noPylong_small (by decide)) fun t1 => ?_
  walk_at "WS"
  refine W.mod (by decide) fun t2 => ?_
  walk_at "WS"
  refine W.mul (IntMulOk.of_right (by decide +kernel)) fun t3 => ?_
  walk_at "WS"
  rename_i t4
  have hk : 0 ≤ (f.fdiv 36).fmod 16 ∧ (f.fdiv 36).fmod 16 < 16 := by rw [Int.fmod_eq_emod_of_nonneg _ (by decide)]; omega
  obtain ⟨h, eh, h16⟩ : ∃ h : Nat, (f.fdiv 36).fmod 16 * 4096 + 416 = (h : Int) ∧ h < 65536 := ⟨((f.fdiv 36).fmod 16 * 4096 + 416).toNat, by omega, by omega⟩
  rw [eh]
  refine W.assComp (cl := []) [Str.ofString "x"] [] ok hE (hns ▸ (by walk_at "MEM")) (by rw [henv]; kernel_rfl) ?_ (by decide +kernel) (by decide) rfl (by decide +kernel)
  refine W.slLto ?_
  walk_at "WS"
  have hvl : vs.length = xs.length := hvs.len
  refine ⟨Sc, vs, kv, _, _, rfl, rfl, .tail _ hS, by decide, by rw [hvl]; unfold sizeLine; omega, fun Sl => ?_⟩
  rw [show (8 : Int).toNat = 8 from rfl]
  refine W.iterL ok (.head _) fun I o ho It => ?_
  have hCf : C.env.frame = some C.loc := by rw [henv]; rfl
  have htl : (xs.take 8).length ≤ 8 := by rw [List.length_take]; omega
  have hol : ((xs.take 8).map ruleOf).length ≤ 8 := by rw [List.length_map]; exact htl
  have hok : ∀ r ∈ (xs.take 8).map ruleOf, RuleOk r := fun r hr => by obtain ⟨x, _, rfl⟩ := List.mem_map.mp hr; exact ruleOf_ok x
  have hsz : (List.take 8 vs).length = (xs.take 8).length := by simp [hvl]
  refine ⟨I, _, _, _, _, fun i ys Lc n2 => (∃ a, Lc = [a]) ∧ ∃ n3, n2 = n3 ++ ((Sl, listOf (List.take 8 vs).toArray 0) :: (765, tabO ps) :: n) ∧ All2 (RuleIn n3) ys (((xs.take 8).map ruleOf).take i), [(I, o)], _, rfl, rfl, by rw [List.size_toArray, hsz]; unfold sizeLine; omega, It, ⟨o, rfl, ho⟩, ⟨⟨none, rfl⟩, [], rfl, .nil⟩, ?_, ?_, ?_⟩
  · rintro i ys Lc n2 ⟨_, n3, rfl, _⟩
    exact List.mem_append_right _ (.head _)
  · rintro C1 hid1 ok1 D m ys Lc n2 ⟨_, n3, rfl, hys⟩
    have hns1 : C1.fn.ns = [Str.ofString "script", Str.ofString "first", Str.ofString "start", Str.ofString "rules", Str.ofString "words", Str.ofString "short", Str.ofString "place", Str.ofString "labels", Str.ofString "host", Str.ofString "held"] := (congrArg Fn.ns hid1.fn).trans hns
    rw [List.size_toArray, hsz, show (xs.take 8).length = ((xs.take 8).map ruleOf).length by simp, List.take_length] at hys
    generalize hrs : (xs.take 8).map ruleOf = rs at *
    refine W.st ok1 hns1 (by walk_at "SET") ?_
    refine seqn ?_
    walk_at "WS"
    refine W.gl ok hgn (by walk_at "MEM") (gt_split ok) ?_
    refine W.cw ok (fo763.keep _) ?_
    walk_at "WS"
    refine W.gl ok hgn (by walk_at "MEM") (gt_join_shlex ok) ?_
    refine W.cw ok (fo770.keep _) ?_
    walk_at "WS"
    refine W.gl ok hgn (by walk_at "MEM") (gt_ulaw_words ok) ?_
    refine W.cw ok (fo853.keep _) ?_
    walk_at "WS"
    refine s853 (rs := rs) ok (by omega) (.head _) (hys.mono fun _ _ x => x.mono fun p hp => .tail _ (List.mem_append_left _ hp)) hok hol fun Wd n5 ws kw hWd hws => ?_
    refine W.spn ?_
    refine W.perm (n' := (765, tabO ps) :: ((n5 ++ ((D, listOf ys.toArray m) :: (n3 ++ [(Sl, listOf (List.take 8 vs).toArray 0)]))) ++ n)) ?_ ?_
    · have h1 := List.perm_middle (a := (765, tabO ps)) (l₁ := n5 ++ ((D, listOf ys.toArray m) :: (n3 ++ [(Sl, listOf (List.take 8 vs).toArray 0)]))) (l₂ := n)
      simp only [List.append_assoc, List.cons_append, List.nil_append] at h1 ⊢
      exact h1.symm
    generalize hX : n5 ++ ((D, listOf ys.toArray m) :: (n3 ++ [(Sl, listOf (List.take 8 vs).toArray 0)])) = X
    have hWX : (Wd, listOf ws.toArray kw) ∈ X ++ n := List.mem_append_left _ (hX ▸ List.mem_append_left _ hWd)
    have hDX : (D, listOf ys.toArray m) ∈ X ++ n := List.mem_append_left _ (hX ▸ List.mem_append_right _ (.head _))
    have hysX : All2 (RuleIn (X ++ n)) ys rs := hys.mono fun _ _ x => x.mono fun p hp => List.mem_append_left _ (hX ▸ List.mem_append_right _ (.tail _ (List.mem_append_left _ hp)))
    refine W.joinSplit (rs := rs) ok hgp hfr hCf (by omega) hWX hws hok hol hps ?_
    intro ps1 S1 acc1 c1 n6 hps1 hS1 hacc1
    walk_at "WS"
    refine W.gl ok hgn (by walk_at "MEM") (gt_split ok) ?_
    refine W.cw ok (fo763.keep _) ?_
    walk_at "WS"
    refine W.gl ok hgn (by walk_at "MEM") (gt_join_shlex ok) ?_
    refine W.cw ok (fo770.keep _) ?_
    walk_at "WS"
    refine W.gl ok hgn (by walk_at "MEM") (gt_ulaw_short ok) ?_
    refine W.cw ok (fo872.keep _) ?_
    walk_at "WS"
    refine s872 (rs := rs) ok (by omega) (by omega) (List.mem_append_left _ hS1) hacc1 hok hol fun Sd n7 ss ks hSd hss => ?_
    refine W.spn ?_
    refine W.perm (n' := (765, tabO ps1) :: ((n7 ++ n6) ++ (X ++ n))) ?_ ?_
    · have h1 := List.perm_middle (a := (765, tabO ps1)) (l₁ := n7 ++ n6) (l₂ := X ++ n)
      simp only [List.append_assoc] at h1 ⊢
      exact h1.symm
    refine W.joinSplit (rs := shortR rs) ok hgp hfr hCf (by omega) (List.mem_append_left _ (List.mem_append_left _ hSd)) hss (short_ok hok) (Nat.le_trans (short_len rs) hol) hps1 ?_
    intro ps2 S2 acc2 c2 n8 hps2 hS2 hacc2
    refine W.st ok hns (by walk_at "SET") ?_
    refine seqn ?_
    have hin : ∀ p ∈ X ++ n, p ∈ n8 ++ ((765, tabO ps2) :: ((n7 ++ n6) ++ (X ++ n))) := fun p hp => List.mem_append_right _ (.tail _ (List.mem_append_right _ hp))
    show W C (execs ((bodyOf (stAt 65)).drop 5) C.env) _ _ _
    refine lawLoop (h := h) (rs := rs) ok hE hf (by omega) (by omega) h16 (hin _ hDX) (hysX.mono fun _ _ x => x.mono hin) hok hol (List.mem_append_right _ (.tail _ (List.mem_append_left _ (List.mem_append_right _ hS1)))) hacc1 (List.mem_append_left _ hS2) hacc2 fun L' n' => ?_
    exact hq _ _ ps2 (List.mem_append_right _ (List.mem_append_right _ (.head _))) fun p hp => List.mem_append_right _ (hin p (List.mem_append_right _ hp))
  · rintro C1 ok1 hw1 hA1 hE1 hns1 hgn1 henv1 i ys v q Lc n2 hi ⟨rfl, hv⟩ ⟨⟨a, rfl⟩, n3, rfl, hys⟩
    have hv' : vs[i]? = some v ∧ i < 8 := by
      have hv2 : (List.take 8 vs)[i]? = some v := by simpa using hv
      rw [List.getElem?_take] at hv2
      split at hv2
      · exact ⟨hv2, by assumption⟩
      · cases hv2
    obtain ⟨x, hx, tx, rfl⟩ := hvs.get hv'.1
    have et : ((xs.take 8).map ruleOf).take (i + 1) = ((xs.take 8).map ruleOf).take i ++ [ruleOf x] := by
      rw [List.take_add_one, List.getElem?_map, List.getElem?_take, if_pos hv'.2, hx]; rfl
    refine W.asgN ?_
    refine W.st ok1 hns1 (by walk_at "SET") ?_
    refine W.pureB ?_
    refine iteT rfl ?_
    have hns := hns1
    walk_at "WS"
    refine W.mod (by decide) fun t11 => ?_
    walk_at "WS"
    refine W.fdiv (by decide) (PyProof.noPylong_small (by decide)) fun t12 => ?_
    walk_at "WS"
    refine W.mod (by decide) fun t13 => ?_
    walk_at "WS"
    refine W.fdiv (by decide) (PyProof.noPylong_small (by decide)) fun t14 => ?_
    walk_at "WS"
    refine W.mul (IntMulOk.of_right (by decide +kernel)) fun t15 => ?_
    walk_at "WS"
    refine W.mod (by decide) fun t16 => ?_
    walk_at "WS"
    rename_i tt
    refine ⟨⟨_, rfl⟩, (tt, tupOf [.bool (x.fmod 2 == 0), .int ((x.fdiv 2).fmod 8) t13, .int ((73 + x.fdiv 16 * 585).fmod 4096) t16]) :: n3, rfl, ?_⟩
    rw [et]
    refine (hys.mono fun _ _ z => z.mono fun p hp => .tail _ hp).snoc ⟨tt, t13, t16, rfl, ?_⟩
    rw [ruleOf_place, ruleOf_mask]
    exact .head _
end
end
-- MLw3
section
set_option maxHeartbeats 0
set_option autoImplicit false
section
variable {C : Cx} {L : Loc} {n : Led} {Q : Value → Loc → Led → Prop} {QF : Flow → Loc → Led → Prop}
theorem b887 {Sc : Addr} {vs : List Value} {kv : Nat} {xs : List Int} {ps : Array Value} (ok : Ok C) (hE : C.E = fun _ _ => False) (hf : C.fn = f887) (hgp : C.gp = fun g _ => AllBare g) (hfr : C.A.frames = some [C.env]) (hr : C.A.depth < 700) (hu9 : C.A.units < 5000)
    (hS : (Sc, listOf vs.toArray kv) ∈ n) (hvs : IntsIn vs xs) (hlen : xs.length ≤ 63) (hps : TriplesOk ps.toList) (henv : C.env = callEnv f887.fd C.loc f887.fa)
    (hq : ∀ L' n' ps', (765, tabO ps') ∈ n' → (∀ p ∈ n, p ∈ n') → QF (.ret (.bool true)) L' n') :
    W C (execs (bodyOf (stAt 65)) C.env) [some (.ref Sc), none, none, none, none, none, none, none, none, none] ((765, tabO ps) :: n) QF := by
  have hns : C.fn.ns = [Str.ofString "script", Str.ofString "first", Str.ofString "start", Str.ofString "rules", Str.ofString "words", Str.ofString "short", Str.ofString "place", Str.ofString "labels", Str.ofString "host", Str.ofString "held"] := congrArg Fn.ns hf
  have hgn : C.fn.gns = f887.gns := congrArg Fn.gns hf
  conv => arg 2; arg 1; whnf
  walk_at "WS"
  rename_i Ne
  refine W.neNil (by omega) (.tail _ (.tail _ hS)) (.head _) ?_
  have fin : ∀ (f : Int) (tf : Tok), W C (execs ((bodyOf (stAt 65)).drop 1) C.env) [some (.ref Sc), some (.int f tf), none, none, none, none, none, none, none, none] ((Ne, listOf #[] 0) :: (765, tabO ps) :: n) QF := fun f tf => by
    refine W.perm (List.Perm.swap _ _ _) ?_
    exact lawRest ok hE hf hgp hfr hr hu9 (.tail _ hS) hvs hlen hps henv fun L' n' ps' h1 h2 => hq L' n' ps' h1 fun p hp => h2 p (.tail _ hp)
  walk_at "WS"
  cases hvs with
  | nil =>
    refine iteF rfl ?_
    walk_at "W1"
    refine W.st ok hns (by walk_at "SET") ?_
    refine seqn ?_
    exact fin _ _
  | @cons v x vs' xs' hv r =>
    obtain ⟨tx, rfl⟩ := hv
    refine iteT rfl ?_
    refine W.subs ?_
    refine W.nm ok hns (by walk_at "AT") ?_
    walk_at "W1"
    refine W.itemA (.tail _ (.tail _ hS)) (by decide) (by decide) rfl ?_
    refine W.st ok hns (by walk_at "SET") ?_
    refine seqn ?_
    exact fin _ _
end
end
-- MOut
section
set_option maxHeartbeats 0
set_option autoImplicit false
theorem K_low {P : Params} {a : Addr} {o : Obj} (h : (K P).lookup a = some o) : a ≠ 765 ∧ a < 888 := by
  have h1 : a ∈ (K P).map (·.1) := by
    have : ∀ (l : List (Addr × Obj)), l.lookup a = some o → a ∈ l.map (·.1) := fun l => by
      induction l with
      | nil => intro h; cases h
      | cons p l ih =>
        intro h
        rw [List.lookup_cons] at h
        split at h
        · rename_i q; rw [List.map_cons, beq_iff_eq.mp q]; exact .head _
        · exact .tail _ (ih h)
    exact this _ h
  have h2 : ∀ x ∈ (K P).map (·.1), x ≠ 765 ∧ x < 888 := by
    have e : (K P).map (·.1) = [48, 49, 55, 56, 62, 63, 67, 68, 81, 82, 108, 109, 111, 112, 113, 138, 139, 369, 379, 385, 386, 392, 393, 399, 400, 555, 561, 562, 615, 616, 668, 674, 675, 681, 682, 683, 711, 712, 718, 719, 740, 741, 747, 748, 750, 751, 756, 762, 763, 769, 770, 771, 777, 778, 784, 785, 791, 792, 793, 794, 795, 796, 797, 798, 799, 800, 801, 802, 803, 804, 805, 806, 807, 808, 809, 810, 811, 812, 813, 814, 815, 816, 817, 818, 819, 820, 821, 822, 823, 824, 825, 831, 832, 838, 839, 845, 846, 852, 853, 859, 860, 866, 867, 871, 872, 876, 877, 881, 882, 886, 887] := rfl
    rw [e]
    decide +kernel
  exact h2 a h1
theorem nsHide {h : Heap} {Sc a : Addr} {vs : List Value} {m : Str → Option Value} {ps : Array Value} (ht : h.get? 765 = some (tabO ps)) (hSc : h.get? Sc = some (listOf vs.toArray 0)) (x : h.Ns a m) : (hideAll h [765, Sc]).Ns a m := by
  obtain ⟨o, es, ep, ho, hd, r⟩ := x
  refine ⟨o, es, ep, hideAll_get _ ho fun q => ?_, hd, r⟩
  cases q with
  | head => rw [ht] at ho; cases ho; cases hd
  | tail _ q => cases q with
    | head => rw [hSc] at ho; cases ho; cases hd
    | tail _ q => cases q
theorem outer {w : World} {A : Around} {E : Value → Shared → Prop} {s : Shared} {mg mb : Str → Option Value} {Sc : Addr} {vs : List Value} {xs : List Int} (hA : A.handled = none) (hfr : A.frames = some []) (hd : A.depth < 600) (hu : A.units < 4000)
    (k : (K w.params).In s.heap) (g : s.heap.Ns mainGlobals mg) (b : s.heap.Ns builtinsNs mb) (gt : ∀ p ∈ gtab, mg p.1 = p.2) (bt : ∀ x : Str, x ≠ "__name__" → mb x = bootBuiltins x) (lim : s.heap.NoLimit)
    (dig : ∃ mc, s.heap.Ns cStatics mc ∧ mc "sys.int_max_str_digits" = none ∧ mc "thirdparty.any" = none) (bm : ∃ bm ob, BMod s.heap mainGlobals mg bm ob)
    (ht : s.heap.get? 765 = some (tabO #[])) (hSc : s.heap.get? Sc = some (listOf vs.toArray 0)) (hne : 888 ≤ Sc) (hvs : IntsIn vs xs) (hlen : xs.length ≤ 63) (hg : AllBare s.gens) :
    wpAny (model P0 w) A (call (.ref 887) [.ref Sc]) (fun v s' => v = .bool true ∧ s'.os = s.os ∧ AllBare s'.gens ∧ (∃ ps, s'.heap.get? 765 = some (tabO ps)) ∧ ∀ b o, b ≠ 765 → s.heap.get? b = some o → s'.heap.get? b = some o) E s := by
  have hk0 : (K w.params).In (hideAll s.heap [765, Sc]) := fun a o e => hideAll_get _ (k a o e) fun q => by
    have hl := K_low e
    cases q with
    | head => exact hl.1 rfl
    | tail _ q => cases q with
      | head => exact absurd hl.2 (Nat.not_lt.mpr hne)
      | tail _ q => cases q
  have hbind : bindArgs f887.fd ⟨[.ref Sc], []⟩ = Pure.pure (f887.ns.zip [.ref Sc]) := by kernel_rfl
  have hb0 : BindsTo s f887.fd ⟨[.ref Sc], []⟩ (f887.ns.zip [.ref Sc]) := BindsTo.of_eq hbind
  let R : Result → Shared → Prop := fun r s' => match r with
    | .ok (.ret v) => v = .bool true ∧ s'.os = s.os ∧ AllBare s'.gens ∧ (∃ ps, s'.heap.get? 765 = some (tabO ps)) ∧ ∀ b o, b ≠ 765 → s.heap.get? b = some o → s'.heap.get? b = some o
    | _ => False
  refine wpAny_call (codeAny_mono (R := R) (codeAny_call_function (A := A) (by show A.depth < 1000; omega) (k _ _ (fo887.at_ _)) rfl fo887.co fo887.gen fo887.body (codeRec_of k (fo887.code _)) (hb0 _ _ _ _ ?_)) fun r s' g => ?_)
  · refine wpAny_newFunctionEnv fo887.cell (fun y hy => (fo887.locs _ (List.of_mem_zip (a := y.1) (b := y.2) hy).1).1) (fun h₁ hns hsb => ⟨lim.fresh _ hsb, codeAny_func ?_⟩) fo887.kind
    have hk₁ : ∀ b o, s.heap.get? b = some o → h₁.get? b = some o := fun b o e => hsb.extBut b o (Nat.ne_of_lt (Heap.lt_size e)) (Heap.get?_push_of_some _ e)
    show wpAny (model P0 w) (A.deeper (callEnv f887.fd s.heap.objs.size f887.fa)) (execs (bodyOf (stAt 65)) (callEnv f887.fd s.heap.objs.size f887.fa)) _ _ _
    have bm' : ∃ bm ob, BMod (hideAll s.heap [765, Sc]) mainGlobals mg bm ob := by
      obtain ⟨bm, ob, z⟩ := bm
      refine ⟨bm, ob, nsHide ht hSc z.ns, z.name, z.ne, hideAll_get _ z.obj fun q => ?_, z.cls, z.dict, z.data⟩
      have ho := z.obj
      have hdt := z.data
      cases q with
      | head => rw [ht] at ho; cases ho; cases hdt
      | tail _ q => cases q with
        | head => rw [hSc] at ho; cases ho; cases hdt
        | tail _ q => cases q
    have ok' : Ok ⟨w, A.deeper (callEnv f887.fd s.heap.objs.size f887.fa), fun _ _ => False,
        hideAll s.heap [765, Sc], callEnv f887.fd s.heap.objs.size f887.fa, f887, mg, mb, s.os, [], fun g _ => AllBare g⟩ :=
      ⟨hk0, nsHide ht hSc g, nsHide ht hSc b, gt, bt, let ⟨mc, h1, h2⟩ := lim; ⟨mc, nsHide ht hSc h1, h2⟩, let ⟨mc, h1, h2⟩ := dig; ⟨mc, nsHide ht hSc h1, h2⟩, bm', hA, fo887.gl, fo887.bl, fo887.kind, fo887.locs, fo887.gls, fo887.nd⟩
    have hw := b887 (Sc := Sc) (vs := vs) (xs := xs) (kv := 0) (ps := #[]) (n := [(Sc, listOf vs.toArray 0)]) ok' rfl rfl rfl (by show (A.deeper _).frames = _; unfold Around.deeper; rw [hfr]; rfl) (by show A.depth + 1 < 700; omega) (by show A.units + 3 < 5000; omega) (.head _) hvs hlen trivial rfl
      (QF := fun fl _ n' => retOf fl = .bool true ∧ (∃ ps, (765, tabO ps) ∈ n') ∧ (Sc, listOf vs.toArray 0) ∈ n') fun L' n' ps' h1 h2 => ⟨rfl, ⟨ps', h1⟩, h2 _ (.head _)⟩
    refine wpAny_mono (hw { s with heap := h₁, toks := s.toks + (f887.ns.zip [Value.ref Sc]).length } ⟨?_, ?_, ?_, hg, rfl⟩) (fun fl s' hl => ?_) fun _ _ y => y.elim
    · have e : look2 f887.ns (startL f887.ns [.ref Sc]) = fun x => (f887.ns.zip [Value.ref Sc]).reverse.lookup x := funext fun x => by rw [look2_start, lookup_reverse (zip_nodup fo887.nd [.ref Sc])]
      refine ⟨?_, fun b o e => hk₁ b o (of_hideAll _ e), Nat.le_of_eq (hideAll_size _ _)⟩
      show h₁.Ns s.heap.objs.size (look2 f887.ns (startL f887.ns [.ref Sc]))
      rw [e]
      exact hns
    · intro p hp
      cases hp with
      | head => exact ⟨hk₁ _ _ ht, Nat.ne_of_lt (Heap.lt_size ht), hideAll_none _ (.head _)⟩
      | tail _ hp => cases hp with
        | head => exact ⟨hk₁ _ _ hSc, Nat.ne_of_lt (Heap.lt_size hSc), hideAll_none _ (.tail _ (.head _))⟩
        | tail _ hp => cases hp
    · show [765, Sc].Nodup
      have : (765 : Addr) ≠ Sc := fun e => absurd hne (by rw [← e]; decide)
      simp [this]
    · obtain ⟨L', n', hs', hv, ⟨ps', h1⟩, h2⟩ := hl
      have key : retOf fl = .bool true ∧ s'.os = s.os ∧ AllBare s'.gens ∧ (∃ ps, s'.heap.get? 765 = some (tabO ps)) ∧ ∀ b o, b ≠ 765 → s.heap.get? b = some o → s'.heap.get? b = some o := by
        refine ⟨hv, hs'.os, hs'.gb, ⟨ps', (hs'.nw _ (List.mem_append_left _ h1)).1⟩, fun b o hb e => ?_⟩
        by_cases q : b = Sc
        · subst q
          rw [hSc] at e; cases e
          exact (hs'.nw _ (List.mem_append_left _ h2)).1
        · refine hs'.fr.keep b o (hideAll_get _ e fun z => ?_)
          cases z with
          | head => exact hb rfl
          | tail _ z => cases z with
            | head => exact q rfl
            | tail _ z => cases z
      cases fl <;> exact key
  · cases r with
    | error e => exact g.elim
    | ok f => cases f <;> first | exact g | exact g.elim
end
-- MPre
section
set_option maxHeartbeats 0
set_option autoImplicit false
theorem int_of_has {R : WRecords} {x : WData} (h : WShape.has R x .int = true) : ∃ i, x = .int i := by
  cases x <;> first | exact ⟨_, rfl⟩ | exact absurd (h : false = true) Bool.false_ne_true
theorem ints_of_items {R : WRecords} : ∀ {xs : List WData}, WShape.hasItems R xs .int = true → ∃ is : List Int, xs = is.map .int
  | [], _ => ⟨[], rfl⟩
  | x :: xs, h => by
    have h0 : (WShape.has R x .int && WShape.hasItems R xs .int) = true := h
    obtain ⟨h1, h2⟩ := Bool.and_eq_true_iff.mp h0
    obtain ⟨i, rfl⟩ := int_of_has h1
    obtain ⟨is, rfl⟩ := ints_of_items h2
    exact ⟨i :: is, rfl⟩
theorem list_of_has {R : WRecords} {x : WData} (h : WShape.has R x (.list .int) = true) : ∃ is : List Int, x = .list (is.map .int) := by
  cases x with
  | list xs =>
    have h' : WShape.hasItems R xs .int = true := by
      have h2 : (WShape.hasItems R xs .int || false) = true := h
      rwa [Bool.or_false] at h2
    obtain ⟨is, rfl⟩ := ints_of_items h'
    exact ⟨is, rfl⟩
  | _ => exact absurd (h : false = true) Bool.false_ne_true
theorem pre_inv {args : List WData} (h : PySem.Challenge.rw_oc0310_01.row.claim.pre args = true) : ∃ is : List Int, args = [.list (is.map .int)] ∧ is.length ≤ 63 := by
  have h' : (WShape.hasAll [] args [.list .int] && PySem.Challenge.rw_oc0310_01.pre.holds [] { args := args }) = true := h
  obtain ⟨h1, h2⟩ := Bool.and_eq_true_iff.mp h'
  match args, h1, h2 with
  | [], h1, _ => exact absurd (h1 : false = true) Bool.false_ne_true
  | [x], h1, h2 =>
    have h3 : WShape.has [] x (.list .int) = true := by
      have h0 : (WShape.has [] x (.list .int) && WShape.hasAll [] [] []) = true := h1
      exact (Bool.and_eq_true_iff.mp h0).1
    obtain ⟨is, rfl⟩ := list_of_has h3
    refine ⟨is, rfl, ?_⟩
    have h4 : (WTm.and (.not (.lt (.lit (.int 63)) (.len (.arg 0)))) (.lit (.bool true))).holds [] { args := [.list (is.map .int)] } = true := h2
    have e : (is.map WData.int).length = is.length := List.length_map ..
    cases q : decide ((63 : Int) < (((is.map WData.int).length : Nat) : Int)) with
    | false => have := of_decide_eq_false q; rw [e] at this; omega
    | true =>
      have e1 : WTm.value [] (.lt (.lit (.int 63)) (.len (.arg 0))) { args := [.list (is.map .int)] } = some (.bool true) := by
        show Option.map WData.bool (some (decide ((63 : Int) < (((is.map WData.int).length : Nat) : Int)))) = _
        rw [q]; rfl
      have e2 : WTm.value [] (.not (.lt (.lit (.int 63)) (.len (.arg 0)))) { args := [.list (is.map .int)] } = some (.bool false) := by
        rw [WTm.value, e1]; rfl
      have e3 : WTm.value [] (.and (.not (.lt (.lit (.int 63)) (.len (.arg 0)))) (.lit (.bool true))) { args := [.list (is.map .int)] } = some (.bool false) := by
        rw [WTm.value, e2]
      unfold WTm.holds at h4
      rw [e3] at h4
      cases h4
  | x :: y :: r, h1, _ =>
    have h0 : (WShape.has [] x (.list .int) && false) = true := h1
    rw [Bool.and_false] at h0
    exact absurd h0 Bool.false_ne_true
theorem ints_of_well {P : Params} {h : Heap} : ∀ {vs : List Value} {is : List Int}, WellAll P h vs (is.map .int) → IntsIn vs is
  | [], [], _ => .nil
  | v :: vs, i :: is, x => by
    cases x with
    | cons x1 x2 =>
      cases x1
      exact .cons ⟨_, rfl⟩ (ints_of_well x2)
  | [], _ :: _, x => by cases x
  | _ :: _, [], x => by cases x
theorem well_one {P : Params} {h : Heap} {vals : List Value} {is : List Int} (x : WellAll P h vals [.list (is.map .int)]) : ∃ Sc vs, vals = [.ref Sc] ∧ h.get? Sc = some (listOf (List.toArray vs) 0) ∧ IntsIn vs is := by
  cases x with
  | cons x1 x2 =>
    cases x2
    cases x1 with
    | list h1 h2 => exact ⟨_, _, rfl, h1, ints_of_well h2⟩
theorem nsMap_keeps {h h' : Heap} {a : Addr} {x : Str} {v : Value} (k : ∀ b o, h.get? b = some o → h'.get? b = some o) (e : h.nsMap a x = some v) : h'.nsMap a = h.nsMap a := by
  funext y
  unfold Heap.nsMap at e ⊢
  cases ho : h.get? a with
  | none => rw [ho] at e; cases e
  | some o => rw [k _ _ ho]
theorem post_ok (args : List WData) : PySem.Challenge.rw_oc0310_01.row.claim.post args (.bool true) args = true := by
  show (WShape.has [] (.bool true) .bool && (WTm.eq .res (.lit (.bool true))).holds [] { args := args, res := some (.bool true), after := args }) = true
  kernel_rfl
end
-- MFin
section
noncomputable section
theorem fin {w : World} {s₀ s₁ : Shared} {mg mb : Str → Option Value} {a : Addr} {args : List WData} {vals : List Value} {as : List Addr} {E : Value → Shared → Prop}
    (G : Ground q loose PySem.Challenge.rw_oc0310_01.row.records (fun _ _ => True) w s₀ mg mb s₁.heap) (Y : yf s₀ = ya w) (hmg : mg (Str.ofString "law") = some (.ref a)) (hg : s₁.gens = #[])
    (L : Laid PySem.Challenge.rw_oc0310_01.row.records w s₀ s₁ args vals as) (hpre : PySem.Challenge.rw_oc0310_01.row.claim.pre args = true) (hwl : WellAll w.params s₁.heap vals args) (hrd : ReadsAllW PySem.Challenge.rw_oc0310_01.row.records (classAt s₀.heap) s₁.heap vals args as) :
    wpAny (model P0 w) callerA (call (.ref a) vals) (fun v s' => GoodWG PySem.Challenge.rw_oc0310_01.row.claim (classAt s₀.heap) (ExcName.means s₀.heap) args s₁ (Except.ok (Flow.ret v)) s') E s₁ := by
  have Y1 : adr.map s₀.heap.get? = some o765 :: (K w.params).map (fun p => some p.2) := congrArg (·.1) Y
  have Y2 : s₀.heap.objs.size = 888 := congrArg (·.2.1) Y
  have Y4 : (gtab.map (·.1)).map (s₀.heap.nsMap mainGlobals) = gtab.map (·.2) := congrArg (·.2.2.2.1) Y
  have Y5 : s₀.heap.nsMap cStatics "thirdparty.any" = none := congrArg (·.2.2.2.2.1) Y
  have Y6 : s₀.heap.isNs cStatics = true := congrArg (·.2.2.2.2.2) Y
  obtain ⟨Y0, YK⟩ := List.cons.inj Y1
  have hK0 : (K w.params).In s₀.heap := Frag.in_of (as := adr.tail) rfl YK
  have hK : (K w.params).In s₁.heap := hK0.keeps L.keeps
  have ht : s₁.heap.get? 765 = some (tabO #[]) := L.keeps _ _ Y0
  have gt0 : ∀ p ∈ gtab, s₀.heap.nsMap mainGlobals p.1 = p.2 := by
    rw [List.map_map] at Y4
    exact List.map_inj_left.mp Y4
  have e0 : s₀.heap.nsMap mainGlobals (Str.ofString "law") = some (.ref 887) := gt0 (Str.ofString "law", some (.ref 887)) (List.mem_of_getElem? (i := 24) (by kernel_rfl))
  have em : mg = s₀.heap.nsMap mainGlobals := G.T.g.eq_nsMap.trans (nsMap_keeps L.keeps e0)
  have gt : ∀ p ∈ gtab, mg p.1 = p.2 := em ▸ gt0
  obtain rfl : a = 887 := by
    have h1 := hmg.symm.trans (gt (Str.ofString "law", some (.ref 887)) (List.mem_of_getElem? (i := 24) (by kernel_rfl)))
    injection h1 with h1
    injection h1
  obtain ⟨is, rfl, hlen⟩ := pre_inv hpre
  obtain ⟨Sc, vs, rfl, hSc, hvs⟩ := well_one hwl
  have hin : Sc ∈ as := by
    cases hrd with
    | cons r1 r2 =>
      cases r1 with
      | list h1 h2 h3 h4 => exact List.mem_append_left _ (.head _)
  have hne : 888 ≤ Sc := by
    have := (L.within.2.2 Sc hin).1
    rw [Y2] at this
    exact this
  have dig : ∃ mc, s₁.heap.Ns cStatics mc ∧ mc "sys.int_max_str_digits" = none ∧ mc "thirdparty.any" = none := by
    obtain ⟨mc, h1, h2⟩ := G.T.nodigits
    refine ⟨mc, h1, h2, ?_⟩
    have h3 : s₁.heap.Ns cStatics (s₀.heap.nsMap cStatics) := (Heap.Ns.of_isNs Y6).keeps L.keeps
    rw [h1.eq_nsMap, ← h3.eq_nsMap]
    exact Y5
  refine wpAny_mono (outer (E := fun _ _ => False) (A := callerA) rfl rfl (by decide +kernel) (by decide +kernel) hK G.T.g G.T.b gt G.T.builtins G.T.nolimit dig (bmod_of_top G.T) ht hSc hne hvs hlen (.of_eq hg)) (fun v s' x => ?_) fun _ _ x => x.elim
  obtain ⟨rfl, hos, hb, ⟨ps, h765⟩, hkeep⟩ := x
  refine ⟨.inl ⟨_, .bool true, [], rfl, fun _ => rfl, .bool true, post_ok _, fun _ => ⟨List.nodup_nil, fun _ h => by cases h⟩⟩, ⟨fun b o e => ?_, fun b o e => ?_⟩, hos, hb⟩
  · by_cases q : b = 765
    · subst q
      rw [ht] at e; cases e
      exact .inr (.inl ⟨(tab769 hK ht).isCodeTable, rfl, #[], ps, rfl, by rw [h765]; simp⟩)
    · exact .inl (hkeep b o q e)
  · by_cases q : b = 765
    · subst q
      exact ⟨_, h765⟩
    · exact ⟨o, hkeep b o q e⟩
theorem walk {d : DefRec} {kwd : List (Str × Expr)} (hn : d.name = Str.ofString "law") : WalkX q loose (fun _ _ => True) yf ya PySem.Challenge.rw_oc0310_01.row.toRowW d kwd fun f vs => call f vs := by
  unfold WalkX
  intro w s₀ s₁ mg mb G Y a o pm cd doc dV kV ho hd hcd hD hmg hg args vals as L hpre hlay hrd hwl hlo
  exact fin G Y (hn ▸ hmg) hg L hpre hwl hrd
end
end
end
end Mine
set_option maxHeartbeats 0 in
theorem PySem.Challenge.cw_oc0310_01_holds : PySem.Challenge.rw_oc0310_01.Holds := by
  w_on
  refine holds_law Mine.ws fun said => ?_
  refine holds_openX (q := Mine.q) (loose := Mine.loose) (Xt := fun _ => true) (XP := fun _ _ => True) (Yf := Mine.yf) (Ya := Mine.ya) (N := 12000) Mine.left (fun _ _ => trivial) (fun _ _ _ _ _ => trivial) (by rfl) (by rfl) (by rfl) (fun s e => recFacts_nil rfl) (by rfl) (by first | assumption | decide +kernel) (by decide +kernel) ⟨rfl, rfl, rfl, rfl, rfl, by decide +kernel⟩ ?hw ?hc
  case hw => w_witness2
  case hc => exact Mine.walk rfl
