import PyProof.Rows.All
import Wide.All
import OpenK.AllK
import Wide.FinOn
import PySem.Challenge.RW_ik0085_01
open PySem PySem.W PyProof.Rows
set_option Elab.async false
set_option maxRecDepth 100000
set_option linter.all false
set_option genInjectivity false
set_option genSizeOf false
set_option pp.deepTerms false
set_option pp.maxSteps 4000
set_option rowWalk.seconds 0
namespace Mine
open PySem.Spec PySem.Calls
section
open PySem.PyData
noncomputable abbrev pE : Program := PySem.Challenge.rw_ik0085_01.row.prog
noncomputable def mS (i : Nat) : Stmt := (pE.main.body[i]?).getD default
noncomputable def clsBody : Stmt → List Stmt
  | .ClassDef _ _ _ b .. => b
  | _ => []
noncomputable def nS (i j : Nat) : Stmt := ((clsBody (mS i))[j]?).getD default
noncomputable def fA : Stmt → Arguments
  | .FunctionDef _ a .. => a
  | _ => default
noncomputable def fB : Stmt → FuncBody
  | .FunctionDef _ _ b .. => .stmts b
  | _ => default
noncomputable def fS : Stmt → Scope
  | .FunctionDef _ _ _ _ _ _ s .. => s
  | _ => default
noncomputable abbrev eN (P : Params) (k : Str) (n : Nat) (v : Value) : DictEntry := ⟨keyHash P k, .str k n, v⟩
noncomputable def hd.heap_39 (P : Params) : Frag := (nat_lit 2, ⟨.none, none, (.dict (List.toArray [⟨(keyHash P "\x69mport.loaded._collections"), (.str "\x69mport.loaded._collections" 185), (.bool true)⟩, ⟨(keyHash P "class._frozen_importlib.BuiltinImporter"), (.str "class._frozen_importlib.BuiltinImporter" 187), (.ref 15)⟩, ⟨(keyHash P "watched.\x69mport"), (.str "watched.\x69mport" 208), (.ref 19)⟩, ⟨(keyHash P "class._frozen_importlib.ModuleSpec"), (.str "class._frozen_importlib.ModuleSpec" 218), (.ref 23)⟩, ⟨(keyHash P "sys.modules.booked-epoch"), (.str "sys.modules.booked-epoch" 247), (.int 3 0)⟩, ⟨(keyHash P "sys.modules.landed._collections"), (.str "sys.modules.landed._collections" 248), (.bool true)⟩, ⟨(keyHash P "\x69mport.later-laid._collections"), (.str "\x69mport.later-laid._collections" 263), (.bool true)⟩, ⟨(keyHash P "watched.library"), (.str "watched.library" 265), (.ref 28)⟩, ⟨(keyHash P "watched.library-objects"), (.str "watched.library-objects" 0), (.str "\x0d" 0)⟩, ⟨(keyHash P "watched.library-deep._collections"), (.str "watched.library-deep._collections" 266), (.str "\x04\x00\x00\x0c\x04\x00\x00\x0c\x04\x00\x00\x03\x04\x00\x00\x0c\x08\x04dict\x02" 0)⟩, ⟨(keyHash P "type.__subclasses__.OSError.0"), (.str "type.__subclasses__.OSError.0" 485), (.int 176 0)⟩, ⟨(keyHash P "type.__subclasses__.OSError.n"), (.str "type.__subclasses__.OSError.n" 486), (.int 1 0)⟩]) 12), #[]⟩) :: (nat_lit 3, ⟨(.type "dict"), none, (.dict (List.toArray [⟨(keyHash P "__name__"), (.str "__name__" 165), (.str "law_ik0085_01" 1307)⟩, ⟨(keyHash P "__doc__"), (.str "__doc__" 166), .none⟩, ⟨(keyHash P "__package__"), (.str "__package__" 167), .none⟩, ⟨(keyHash P "__loader__"), (.str "__loader__" 168), (.builtin "__main__.__loader__#opaque")⟩, ⟨(keyHash P "__spec__"), (.str "__spec__" 169), .none⟩, ⟨(keyHash P "__annotations__"), (.str "__annotations__" 170), (.ref 6)⟩, ⟨(keyHash P "__builtins__"), (.str "__builtins__" 171), (.ref 4)⟩, ⟨(keyHash P "__file__"), (.str "__file__" 173), (.str "/claim/cut.py" 172)⟩, ⟨(keyHash P "__cached__"), (.str "__cached__" 174), .none⟩, ⟨(keyHash P "deque"), (.str "deque" 272), (.type "collections.deque")⟩, ⟨(keyHash P "_wall"), (.str "_wall" 285), (.ref 39)⟩, ⟨(keyHash P "_plain_name"), (.str "_plain_name" 296), (.ref 46)⟩, ⟨(keyHash P "ABCMeta"), (.str "ABCMeta" 322), (.ref 63)⟩, ⟨(keyHash P "_ABCLike"), (.str "_ABCLike" 365), (.ref 96)⟩, ⟨(keyHash P "_abc_plain_meta"), (.str "_abc_plain_meta" 372), (.ref 105)⟩, ⟨(keyHash P "fspath"), (.str "fspath" 384), (.ref 112)⟩, ⟨(keyHash P "_check_arg_types"), (.str "_check_arg_types" 397), (.ref 723)⟩, ⟨(keyHash P "check_arg_types_genericpath"), (.str "check_arg_types_genericpath" 398), (.ref 119)⟩, ⟨(keyHash P "_get_sep"), (.str "_get_sep" 407), (.ref 126)⟩, ⟨(keyHash P "join"), (.str "join" 418), (.ref 737)⟩, ⟨(keyHash P "join_posixpath"), (.str "join_posixpath" 419), (.ref 133)⟩, ⟨(keyHash P "split"), (.str "split" 430), (.ref 140)⟩, ⟨(keyHash P "commonpath"), (.str "commonpath" 436), (.ref 145)⟩, ⟨(keyHash P "Int2AP"), (.str "Int2AP" 448), (.ref 152)⟩, ⟨(keyHash P "_whence"), (.str "_whence" 458), (.ref 159)⟩, ⟨(keyHash P "_index"), (.str "_index" 466), (.ref 166)⟩, ⟨(keyHash P "UnsupportedOperation"), (.str "UnsupportedOperation" 488), (.ref 176)⟩, ⟨(keyHash P "IOBase"), (.str "IOBase" 520), (.ref 196)⟩, ⟨(keyHash P "BufferedIOBase"), (.str "BufferedIOBase" 538), (.ref 211)⟩, ⟨(keyHash P "TextIOBase"), (.str "TextIOBase" 556), (.ref 223)⟩, ⟨(keyHash P "BytesIO"), (.str "BytesIO" 818), (.ref 453)⟩, ⟨(keyHash P "StringIO"), (.str "StringIO" 1105), (.ref 700)⟩, ⟨(keyHash P "_kind"), (.str "_kind" 1116), (.ref 709)⟩, ⟨(keyHash P "_fspath"), (.str "_fspath" 1125), (.ref 716)⟩, ⟨(keyHash P "check_arg_types_path"), (.str "check_arg_types_path" 1136), (.ref 723)⟩, ⟨(keyHash P "isabs"), (.str "isabs" 1143), (.ref 730)⟩, ⟨(keyHash P "join_path"), (.str "join_path" 1155), (.ref 737)⟩, ⟨(keyHash P "dirname"), (.str "dirname" 1165), (.ref 744)⟩, ⟨(keyHash P "shlex"), (.str "shlex" 1306), (.ref 835)⟩, ⟨(keyHash P "_law_rows"), (.str "_law_rows" 1318), (.ref 846)⟩, ⟨(keyHash P "_law_path"), (.str "_law_path" 1327), (.ref 853)⟩, ⟨(keyHash P "_law_lengths"), (.str "_law_lengths" 1333), (.ref 858)⟩, ⟨(keyHash P "_law_climb"), (.str "_law_climb" 1343), (.ref 865)⟩, ⟨(keyHash P "_law_fraction"), (.str "_law_fraction" 1356), (.ref 872)⟩, ⟨(keyHash P "_law_quotients"), (.str "_law_quotients" 1365), (.ref 879)⟩, ⟨(keyHash P "_law_simplest"), (.str "_law_simplest" 1376), (.ref 886)⟩, ⟨(keyHash P "law"), (.str "law" 1382), (.ref 891)⟩]) 47), #[]⟩) :: (nat_lit 33, ⟨(.type "tuple"), none, (.seq #[] 0), #[]⟩) :: (nat_lit 35, ⟨(.type "tuple"), none, (.seq (List.toArray [(.str "k" 282)]) 0), #[]⟩) :: (nat_lit 36, ⟨(.type "tuple"), none, (.seq #[] 0), #[]⟩) :: (nat_lit 38, ⟨(.type "code"), none, (.fields (List.toArray [(.str "_wall" 279), (.str "_wall" 280), (.str "/claim/cut.py" 281), (.int 2 0), (.int 1 0), (.int 0 0), (.int 0 0), (.int 3 0), (.ref 33), (.bool true), (.int 273 0), (.ref 34), .none, (.ref 35), (.ref 36), (.ref 37), (.int 283 0), (.int 2 0), (.str "/claim/cut.py" 284)])), #[]⟩) :: (nat_lit 39, ⟨(.type "function"), none, (.func ⟨"_wall", "_wall", (fA (mS 1)), (fB (mS 1)), (fS (mS 1)), 3, [], .none, .none, .none, (.str "__main__" 164), none, (.ref 38), .none, 0⟩), #[]⟩) :: (nat_lit 40, ⟨(.type "tuple"), none, (.seq #[] 0), #[]⟩) :: (nat_lit 42, ⟨(.type "tuple"), none, (.seq (List.toArray [(.str "x" 291), (.str "what" 292), (.str "kind" 293)]) 0), #[]⟩) :: (nat_lit 43, ⟨(.type "tuple"), none, (.seq #[] 0), #[]⟩) :: (nat_lit 45, ⟨(.type "code"), none, (.fields (List.toArray [(.str "_plain_name" 288), (.str "_plain_name" 289), (.str "/claim/cut.py" 290), (.int 6 0), (.int 2 0), (.int 0 0), (.int 0 0), (.int 3 0), (.ref 40), (.bool true), (.int 273 0), (.ref 41), .none, (.ref 42), (.ref 43), (.ref 44), (.int 294 0), (.int 6 0), (.str "/claim/cut.py" 295)])), #[]⟩) :: (nat_lit 46, ⟨(.type "function"), none, (.func ⟨"_plain_name", "_plain_name", (fA (mS 3)), (fB (mS 3)), (fS (mS 3)), 3, [], .none, .none, .none, (.str "os" 286), none, (.ref 45), .none, 0⟩), #[]⟩) :: (nat_lit 47, ⟨(.type "tuple"), none, (.seq (List.toArray [(.type "type")]) 0), #[]⟩) :: (nat_lit 54, ⟨(.type "tuple"), none, (.seq #[] 0), #[]⟩) :: (nat_lit 56, ⟨(.type "tuple"), none, (.seq (List.toArray [(.str "cls" 314), (.str "subclass" 315)]) 0), #[]⟩) :: (nat_lit 57, ⟨(.type "tuple"), none, (.seq #[] 0), #[]⟩) :: (nat_lit 59, ⟨(.type "code"), none, (.fields (List.toArray [(.str "register" 311), (.str "ABCMeta.register" 312), (.str "/claim/cut.py" 313), (.int 14 0), (.int 2 0), (.int 0 0), (.int 0 0), (.int 3 0), (.ref 54), (.bool true), (.int 273 0), (.ref 55), .none, (.ref 56), (.ref 57), (.ref 58), (.int 316 0), (.int 14 0), (.str "/claim/cut.py" 317)])), #[]⟩) :: (nat_lit 60, ⟨(.type "function"), none, (.func ⟨"register", "ABCMeta.register", (fA (nS 5 0)), (fB (nS 5 0)), (fS (nS 5 0)), 3, [], .none, .none, .none, (.str "abc" 297), none, (.ref 59), .none, 0⟩), #[]⟩) :: (nat_lit 61, ⟨(.type "tuple"), none, (.seq #[] 0), #[]⟩) :: (nat_lit 62, ⟨(.type "dict"), none, (.dict (List.toArray [⟨(keyHash P "__module__"), (.str "__module__" 306), (.str "abc" 297)⟩, ⟨(keyHash P "__firstlineno__"), (.str "__firstlineno__" 310), (.int 12 309)⟩, ⟨(keyHash P "register"), (.str "register" 318), (.ref 60)⟩, ⟨(keyHash P "__static_attributes__"), (.str "__static_attributes__" 319), (.ref 61)⟩, ⟨(keyHash P "__doc__"), (.str "__doc__" 320), .none⟩]) 2), #[]⟩) :: (nat_lit 63, ⟨(.type "type"), none, (.cls ⟨"ABCMeta", [(.type "type")], [(.ref 63), (.type "type"), (.type "object")], 62, "ABCMeta", true, [], [(.ref 96)], false, none, false⟩), (List.toArray [(some (.ref 47)), none, (some (.str "ABCMeta" 299)), (some (.str "ABCMeta" 307)), (some (.builtin "type.__new__")), (some (.bool true))])⟩) :: (nat_lit 66, ⟨(.type "tuple"), none, (.seq (List.toArray [(.ref 63)]) 0), #[]⟩) :: (nat_lit 73, ⟨(.type "tuple"), none, (.seq #[] 0), #[]⟩) :: (nat_lit 75, ⟨(.type "tuple"), none, (.seq (List.toArray [(.str "cls" 340), (.str "instance" 341), (.str "C" 342)]) 0), #[]⟩) :: (nat_lit 76, ⟨(.type "tuple"), none, (.seq #[] 0), #[]⟩) :: (nat_lit 78, ⟨(.type "code"), none, (.fields (List.toArray [(.str "__instancecheck__" 337), (.str "_ABCLike.__instancecheck__" 338), (.str "/claim/cut.py" 339), (.int 19 0), (.int 2 0), (.int 0 0), (.int 0 0), (.int 3 0), (.ref 73), (.bool true), (.int 273 0), (.ref 74), .none, (.ref 75), (.ref 76), (.ref 77), (.int 343 0), (.int 19 0), (.str "/claim/cut.py" 344)])), #[]⟩) :: (nat_lit 79, ⟨(.type "function"), none, (.func ⟨"__instancecheck__", "_ABCLike.__instancecheck__", (fA (nS 7 0)), (fB (nS 7 0)), (fS (nS 7 0)), 3, [], .none, .none, .none, (.str "collections.abc" 323), none, (.ref 78), .none, 0⟩), #[]⟩) :: (nat_lit 80, ⟨(.type "tuple"), none, (.seq #[] 0), #[]⟩) :: (nat_lit 82, ⟨(.type "tuple"), none, (.seq (List.toArray [(.str "cls" 349), (.str "C" 350)]) 0), #[]⟩) :: (nat_lit 83, ⟨(.type "tuple"), none, (.seq #[] 0), #[]⟩) :: (nat_lit 85, ⟨(.type "code"), none, (.fields (List.toArray [(.str "__subclasscheck__" 346), (.str "_ABCLike.__subclasscheck__" 347), (.str "/claim/cut.py" 348), (.int 25 0), (.int 2 0), (.int 0 0), (.int 0 0), (.int 3 0), (.ref 80), (.bool true), (.int 273 0), (.ref 81), .none, (.ref 82), (.ref 83), (.ref 84), (.int 351 0), (.int 25 0), (.str "/claim/cut.py" 352)])), #[]⟩) :: (nat_lit 86, ⟨(.type "function"), none, (.func ⟨"__subclasscheck__", "_ABCLike.__subclasscheck__", (fA (nS 7 1)), (fB (nS 7 1)), (fS (nS 7 1)), 3, [], .none, .none, .none, (.str "collections.abc" 323), none, (.ref 85), .none, 0⟩), #[]⟩) :: (nat_lit 87, ⟨(.type "tuple"), none, (.seq #[] 0), #[]⟩) :: (nat_lit 89, ⟨(.type "tuple"), none, (.seq (List.toArray [(.str "cls" 357), (.str "subclass" 358)]) 0), #[]⟩) :: (nat_lit 90, ⟨(.type "tuple"), none, (.seq #[] 0), #[]⟩) :: (nat_lit 92, ⟨(.type "code"), none, (.fields (List.toArray [(.str "register" 354), (.str "_ABCLike.register" 355), (.str "/claim/cut.py" 356), (.int 30 0), (.int 2 0), (.int 0 0), (.int 0 0), (.int 3 0), (.ref 87), (.bool true), (.int 273 0), (.ref 88), .none, (.ref 89), (.ref 90), (.ref 91), (.int 359 0), (.int 30 0), (.str "/claim/cut.py" 360)])), #[]⟩) :: (nat_lit 93, ⟨(.type "function"), none, (.func ⟨"register", "_ABCLike.register", (fA (nS 7 2)), (fB (nS 7 2)), (fS (nS 7 2)), 3, [], .none, .none, .none, (.str "collections.abc" 323), none, (.ref 92), .none, 0⟩), #[]⟩) :: (nat_lit 94, ⟨(.type "tuple"), none, (.seq #[] 0), #[]⟩) :: (nat_lit 95, ⟨(.type "dict"), none, (.dict (List.toArray [⟨(keyHash P "__module__"), (.str "__module__" 332), (.str "collections.abc" 323)⟩, ⟨(keyHash P "__firstlineno__"), (.str "__firstlineno__" 336), (.int 17 335)⟩, ⟨(keyHash P "__instancecheck__"), (.str "__instancecheck__" 345), (.ref 79)⟩, ⟨(keyHash P "__subclasscheck__"), (.str "__subclasscheck__" 353), (.ref 86)⟩, ⟨(keyHash P "register"), (.str "register" 361), (.ref 93)⟩, ⟨(keyHash P "__static_attributes__"), (.str "__static_attributes__" 362), (.ref 94)⟩, ⟨(keyHash P "__doc__"), (.str "__doc__" 363), .none⟩]) 2), #[]⟩) :: (nat_lit 96, ⟨(.type "type"), none, (.cls ⟨"_ABCLike", [(.ref 63)], [(.ref 96), (.ref 63), (.type "type"), (.type "object")], 95, "_ABCLike", true, [], [], false, none, false⟩), (List.toArray [(some (.ref 66)), none, (some (.str "_ABCLike" 325)), (some (.str "_ABCLike" 333)), (some (.builtin "type.__new__")), (some (.bool true))])⟩) :: (nat_lit 99, ⟨(.type "tuple"), none, (.seq #[] 0), #[]⟩) :: (nat_lit 101, ⟨(.type "tuple"), none, (.seq (List.toArray [(.str "C" 369)]) 0), #[]⟩) :: (nat_lit 102, ⟨(.type "tuple"), none, (.seq #[] 0), #[]⟩) :: (nat_lit 104, ⟨(.type "code"), none, (.fields (List.toArray [(.str "_abc_plain_meta" 366), (.str "_abc_plain_meta" 367), (.str "/claim/cut.py" 368), (.int 32 0), (.int 1 0), (.int 0 0), (.int 0 0), (.int 3 0), (.ref 99), (.bool true), (.int 273 0), (.ref 100), .none, (.ref 101), (.ref 102), (.ref 103), (.int 370 0), (.int 32 0), (.str "/claim/cut.py" 371)])), #[]⟩) :: (nat_lit 105, ⟨(.type "function"), none, (.func ⟨"_abc_plain_meta", "_abc_plain_meta", (fA (mS 8)), (fB (mS 8)), (fS (mS 8)), 3, [], .none, .none, .none, (.str "collections.abc" 323), none, (.ref 104), .none, 0⟩), #[]⟩) :: (nat_lit 106, ⟨(.type "tuple"), none, (.seq #[] 0), #[]⟩) :: (nat_lit 108, ⟨(.type "tuple"), none, (.seq (List.toArray [(.str "path" 378), (.str "kind" 379), (.str "hook" 380), (.str "given" 381)]) 0), #[]⟩) :: (nat_lit 109, ⟨(.type "tuple"), none, (.seq #[] 0), #[]⟩) :: (nat_lit 111, ⟨(.type "code"), none, (.fields (List.toArray [(.str "fspath" 375), (.str "fspath" 376), (.str "/claim/cut.py" 377), (.int 36 0), (.int 1 0), (.int 0 0), (.int 0 0), (.int 3 0), (.ref 106), (.bool true), (.int 273 0), (.ref 107), .none, (.ref 108), (.ref 109), (.ref 110), (.int 382 0), (.int 36 0), (.str "/claim/cut.py" 383)])), #[]⟩) :: (nat_lit 112, ⟨(.type "function"), none, (.func ⟨"fspath", "fspath", ⟨[], [⟨"path", none, ⟨36, 11, 36, 15⟩⟩], none, [], [], none, []⟩, (.stmts [(.Assign [(.Name "kind" ⟨37, 4, 37, 8⟩)] (.Call (.Name "type" ⟨37, 11, 37, 15⟩) [(.Name "path" ⟨37, 16, 37, 20⟩)] [] ⟨37, 11, 37, 21⟩) ⟨37, 4, 37, 21⟩), (.If (.Call (.Name "issubclass" ⟨38, 7, 38, 17⟩) [(.Name "kind" ⟨38, 18, 38, 22⟩), (.Tuple [(.Name "str" ⟨38, 25, 38, 28⟩), (.Name "bytes" ⟨38, 30, 38, 35⟩)] 0 ⟨38, 24, 38, 36⟩)] [] ⟨38, 7, 38, 37⟩) [(.Return (some (.Name "path" ⟨39, 15, 39, 19⟩)) ⟨39, 8, 39, 19⟩)] [] ⟨38, 4, 39, 19⟩), (.Expr (.Call (.Name "_abc_plain_meta" ⟨40, 4, 40, 19⟩) [(.Name "kind" ⟨40, 20, 40, 24⟩)] [] ⟨40, 4, 40, 25⟩) ⟨40, 4, 40, 25⟩), (.Assign [(.Name "hook" ⟨41, 4, 41, 8⟩)] (.Call (.Name "getattr" ⟨41, 11, 41, 18⟩) [(.Name "kind" ⟨41, 19, 41, 23⟩), (.Constant (.str "__fspath__") 0 ⟨41, 25, 41, 37⟩), (.Constant .none 0 ⟨41, 39, 41, 43⟩)] [] ⟨41, 11, 41, 44⟩) ⟨41, 4, 41, 44⟩), (.If (.Compare (.Name "hook" ⟨42, 7, 42, 11⟩) [.Is] [(.Constant .none 0 ⟨42, 15, 42, 19⟩)] ⟨42, 7, 42, 19⟩) [(.Raise (some (.Call (.Name "TypeError" ⟨43, 14, 43, 23⟩) [(.BinOp (.Constant (.str "expected str, bytes or os.PathLike object, not ") 0 ⟨43, 24, 43, 73⟩) .Add (.Call (.Name "_plain_name" ⟨43, 76, 43, 87⟩) [(.Name "path" ⟨43, 88, 43, 92⟩), (.Constant (.str "the words of fspath, of an object that is no everyday kind") 0 ⟨43, 94, 43, 154⟩)] [] ⟨43, 76, 43, 155⟩) ⟨43, 24, 43, 155⟩)] [] ⟨43, 14, 43, 156⟩)) none ⟨43, 8, 43, 156⟩)] [] ⟨42, 4, 43, 156⟩), (.If (.Compare (.Call (.Name "type" ⟨44, 7, 44, 11⟩) [(.Name "hook" ⟨44, 12, 44, 16⟩)] [] ⟨44, 7, 44, 17⟩) [.IsNot] [(.Call (.Name "type" ⟨44, 25, 44, 29⟩) [(.Name "_plain_name" ⟨44, 30, 44, 41⟩)] [] ⟨44, 25, 44, 42⟩)] ⟨44, 7, 44, 42⟩) [(.Expr (.Call (.Name "_wall" ⟨45, 8, 45, 13⟩) [(.Constant (.int 5) 0 ⟨45, 14, 45, 15⟩)] [] ⟨45, 8, 45, 16⟩) ⟨45, 8, 45, 16⟩)] [] ⟨44, 4, 45, 16⟩), (.Assign [(.Name "given" ⟨46, 4, 46, 9⟩)] (.Call (.Name "hook" ⟨46, 12, 46, 16⟩) [(.Name "path" ⟨46, 17, 46, 21⟩)] [] ⟨46, 12, 46, 22⟩) ⟨46, 4, 46, 22⟩), (.If (.Call (.Name "issubclass" ⟨47, 7, 47, 17⟩) [(.Call (.Name "type" ⟨47, 18, 47, 22⟩) [(.Name "given" ⟨47, 23, 47, 28⟩)] [] ⟨47, 18, 47, 29⟩), (.Tuple [(.Name "str" ⟨47, 32, 47, 35⟩), (.Name "bytes" ⟨47, 37, 47, 42⟩)] 0 ⟨47, 31, 47, 43⟩)] [] ⟨47, 7, 47, 44⟩) [(.Return (some (.Name "given" ⟨48, 15, 48, 20⟩)) ⟨48, 8, 48, 20⟩)] [] ⟨47, 4, 48, 20⟩), (.If (.Compare (.Call (.Name "len" ⟨49, 7, 49, 10⟩) [(.Call (.Attribute (.Attribute (.Name "kind" ⟨49, 11, 49, 15⟩) "__name__" ⟨49, 11, 49, 24⟩) "encode" ⟨49, 11, 49, 31⟩) [(.Constant (.str "utf-8") 0 ⟨49, 32, 49, 39⟩)] [] ⟨49, 11, 49, 40⟩)] [] ⟨49, 7, 49, 41⟩) [.Gt] [(.Constant (.int 200) 0 ⟨49, 44, 49, 47⟩)] ⟨49, 7, 49, 47⟩) [(.Expr (.Call (.Name "_wall" ⟨50, 8, 50, 13⟩) [(.Constant (.int 6) 0 ⟨50, 14, 50, 15⟩)] [] ⟨50, 8, 50, 16⟩) ⟨50, 8, 50, 16⟩)] [] ⟨49, 4, 50, 16⟩), (.Raise (some (.Call (.Name "TypeError" ⟨51, 10, 51, 19⟩) [(.Call (.Attribute (.Constant (.str "expected {}.{}() to return str or bytes, not {}") 0 ⟨51, 20, 51, 69⟩) "format" ⟨51, 20, 51, 76⟩) [(.Attribute (.Name "kind" ⟨51, 77, 51, 81⟩) "__name__" ⟨51, 77, 51, 90⟩), (.Constant (.str "__fspath__") 0 ⟨51, 92, 51, 104⟩), (.Call (.Name "_plain_name" ⟨51, 106, 51, 117⟩) [(.Name "given" ⟨51, 118, 51, 123⟩), (.Constant (.str "the words of fspath, of what an __fspath__ gave") 0 ⟨51, 125, 51, 174⟩)] [] ⟨51, 106, 51, 175⟩)] [] ⟨51, 20, 51, 176⟩)] [] ⟨51, 10, 51, 177⟩)) none ⟨51, 4, 51, 177⟩)]), ⟨.function, [("path", .local), ("kind", .local), ("hook", .local), ("given", .local), ("type", .globalImplicit), ("issubclass", .globalImplicit), ("str", .globalImplicit), ("bytes", .globalImplicit), ("_abc_plain_meta", .globalImplicit), ("getattr", .globalImplicit), ("TypeError", .globalImplicit), ("_plain_name", .globalImplicit), ("_wall", .globalImplicit), ("len", .globalImplicit)], false, false, []⟩, 3, [], .none, .none, .none, (.str "os" 373), none, (.ref 111), .none, 0⟩), #[]⟩) :: (nat_lit 113, ⟨(.type "tuple"), none, (.seq #[] 0), #[]⟩) :: (nat_lit 115, ⟨(.type "tuple"), none, (.seq (List.toArray [(.str "funcname" 390), (.str "args" 391), (.str "hasstr" 392), (.str "hasbytes" 393), (.str "s" 394)]) 0), #[]⟩) :: (nat_lit 116, ⟨(.type "tuple"), none, (.seq #[] 0), #[]⟩) :: (nat_lit 118, ⟨(.type "code"), none, (.fields (List.toArray [(.str "_check_arg_types" 387), (.str "_check_arg_types" 388), (.str "/claim/cut.py" 389), (.int 53 0), (.int 1 0), (.int 0 0), (.int 0 0), (.int 7 0), (.ref 113), (.bool true), (.int 273 0), (.ref 114), .none, (.ref 115), (.ref 116), (.ref 117), (.int 395 0), (.int 53 0), (.str "/claim/cut.py" 396)])), #[]⟩) :: (nat_lit 119, ⟨(.type "function"), none, (.func ⟨"_check_arg_types", "_check_arg_types", (fA (mS 12)), (fB (mS 12)), (fS (mS 12)), 3, [], .none, .none, .none, (.str "cpy313.genericpath" 385), none, (.ref 118), .none, 0⟩), #[]⟩) :: (nat_lit 120, ⟨(.type "tuple"), none, (.seq #[] 0), #[]⟩) :: (nat_lit 122, ⟨(.type "tuple"), none, (.seq (List.toArray [(.str "path" 404)]) 0), #[]⟩) :: (nat_lit 123, ⟨(.type "tuple"), none, (.seq #[] 0), #[]⟩) :: (nat_lit 125, ⟨(.type "code"), none, (.fields (List.toArray [(.str "_get_sep" 401), (.str "_get_sep" 402), (.str "/claim/cut.py" 403), (.int 66 0), (.int 1 0), (.int 0 0), (.int 0 0), (.int 3 0), (.ref 120), (.bool true), (.int 273 0), (.ref 121), .none, (.ref 122), (.ref 123), (.ref 124), (.int 405 0), (.int 66 0), (.str "/claim/cut.py" 406)])), #[]⟩) :: (nat_lit 126, ⟨(.type "function"), none, (.func ⟨"_get_sep", "_get_sep", ⟨[], [⟨"path", none, ⟨66, 13, 66, 17⟩⟩], none, [], [], none, []⟩, (.stmts [(.If (.Call (.Name "isinstance" ⟨67, 7, 67, 17⟩) [(.Name "path" ⟨67, 18, 67, 22⟩), (.Name "bytes" ⟨67, 24, 67, 29⟩)] [] ⟨67, 7, 67, 30⟩) [(.Return (some (.Constant (.bytes [47]) 0 ⟨68, 15, 68, 19⟩)) ⟨68, 8, 68, 19⟩)] [(.Return (some (.Constant (.str "/") 0 ⟨70, 15, 70, 18⟩)) ⟨70, 8, 70, 18⟩)] ⟨67, 4, 70, 18⟩)]), ⟨.function, [("path", .local), ("isinstance", .globalImplicit), ("bytes", .globalImplicit)], false, false, []⟩, 3, [], .none, .none, .none, (.str "cpy313.posixpath" 399), none, (.ref 125), .none, 0⟩), #[]⟩) :: (nat_lit 127, ⟨(.type "tuple"), none, (.seq #[] 0), #[]⟩) :: (nat_lit 129, ⟨(.type "tuple"), none, (.seq (List.toArray [(.str "a" 411), (.str "p" 412), (.str "sep" 413), (.str "path" 414), (.str "b" 415)]) 0), #[]⟩) :: (nat_lit 130, ⟨(.type "tuple"), none, (.seq #[] 0), #[]⟩) :: (nat_lit 132, ⟨(.type "code"), none, (.fields (List.toArray [(.str "join" 408), (.str "join" 409), (.str "/claim/cut.py" 410), (.int 71 0), (.int 1 0), (.int 0 0), (.int 0 0), (.int 7 0), (.ref 127), (.bool true), (.int 273 0), (.ref 128), .none, (.ref 129), (.ref 130), (.ref 131), (.int 416 0), (.int 71 0), (.str "/claim/cut.py" 417)])), #[]⟩) :: (nat_lit 133, ⟨(.type "function"), none, (.func ⟨"join", "join", ⟨[], [⟨"a", none, ⟨71, 9, 71, 10⟩⟩], (some ⟨"p", none, ⟨71, 13, 71, 14⟩⟩), [], [], none, []⟩, (.stmts [(.Assign [(.Name "a" ⟨72, 4, 72, 5⟩)] (.Call (.Name "fspath" ⟨72, 8, 72, 14⟩) [(.Name "a" ⟨72, 15, 72, 16⟩)] [] ⟨72, 8, 72, 17⟩) ⟨72, 4, 72, 17⟩), (.Assign [(.Name "sep" ⟨73, 4, 73, 7⟩)] (.Call (.Name "_get_sep" ⟨73, 10, 73, 18⟩) [(.Name "a" ⟨73, 19, 73, 20⟩)] [] ⟨73, 10, 73, 21⟩) ⟨73, 4, 73, 21⟩), (.Assign [(.Name "path" ⟨74, 4, 74, 8⟩)] (.Name "a" ⟨74, 11, 74, 12⟩) ⟨74, 4, 74, 12⟩), (.Try [(.For (.Name "b" ⟨76, 12, 76, 13⟩) (.Name "p" ⟨76, 17, 76, 18⟩) [(.Assign [(.Name "b" ⟨77, 12, 77, 13⟩)] (.Call (.Name "fspath" ⟨77, 16, 77, 22⟩) [(.Name "b" ⟨77, 23, 77, 24⟩)] [] ⟨77, 16, 77, 25⟩) ⟨77, 12, 77, 25⟩), (.If (.BoolOp .Or [(.Call (.Attribute (.Name "b" ⟨78, 15, 78, 16⟩) "startswith" ⟨78, 15, 78, 27⟩) [(.Name "sep" ⟨78, 28, 78, 31⟩)] [] ⟨78, 15, 78, 32⟩), (.UnaryOp .Not (.Name "path" ⟨78, 40, 78, 44⟩) ⟨78, 36, 78, 44⟩)] ⟨78, 15, 78, 44⟩) [(.Assign [(.Name "path" ⟨79, 16, 79, 20⟩)] (.Name "b" ⟨79, 23, 79, 24⟩) ⟨79, 16, 79, 24⟩)] [(.If (.Call (.Attribute (.Name "path" ⟨80, 17, 80, 21⟩) "endswith" ⟨80, 17, 80, 30⟩) [(.Name "sep" ⟨80, 31, 80, 34⟩)] [] ⟨80, 17, 80, 35⟩) [(.AugAssign (.Name "path" ⟨81, 16, 81, 20⟩) .Add (.Name "b" ⟨81, 24, 81, 25⟩) ⟨81, 16, 81, 25⟩)] [(.AugAssign (.Name "path" ⟨83, 16, 83, 20⟩) .Add (.BinOp (.Name "sep" ⟨83, 24, 83, 27⟩) .Add (.Name "b" ⟨83, 30, 83, 31⟩) ⟨83, 24, 83, 31⟩) ⟨83, 16, 83, 31⟩)] ⟨80, 12, 83, 31⟩)] ⟨78, 12, 83, 31⟩)] [] ⟨76, 8, 83, 31⟩)] [⟨(some (.Tuple [(.Name "TypeError" ⟨84, 12, 84, 21⟩), (.Name "AttributeError" ⟨84, 23, 84, 37⟩), (.Name "BytesWarning" ⟨84, 39, 84, 51⟩)] 0 ⟨84, 11, 84, 52⟩)), none, [(.Expr (.Call (.Name "check_arg_types_genericpath" ⟨85, 8, 85, 35⟩) [(.Constant (.str "join") 0 ⟨85, 36, 85, 42⟩), (.Name "a" ⟨85, 44, 85, 45⟩), (.Starred (.Name "p" ⟨85, 48, 85, 49⟩) ⟨85, 47, 85, 49⟩)] [] ⟨85, 8, 85, 50⟩) ⟨85, 8, 85, 50⟩), (.Raise none none ⟨86, 8, 86, 13⟩)], ⟨84, 4, 86, 13⟩⟩] [] [] ⟨75, 4, 86, 13⟩), (.Return (some (.Name "path" ⟨87, 11, 87, 15⟩)) ⟨87, 4, 87, 15⟩)]), ⟨.function, [("a", .local), ("p", .local), ("sep", .local), ("path", .local), ("b", .local), ("fspath", .globalImplicit), ("_get_sep", .globalImplicit), ("TypeError", .globalImplicit), ("AttributeError", .globalImplicit), ("BytesWarning", .globalImplicit), ("check_arg_types_genericpath", .globalImplicit)], false, false, []⟩, 3, [], .none, .none, .none, (.str "cpy313.posixpath" 399), none, (.ref 132), .none, 0⟩), #[]⟩) :: (nat_lit 134, ⟨(.type "tuple"), none, (.seq #[] 0), #[]⟩) :: (nat_lit 136, ⟨(.type "tuple"), none, (.seq (List.toArray [(.str "p" 423), (.str "sep" 424), (.str "i" 425), (.str "head" 426), (.str "tail" 427)]) 0), #[]⟩) :: (nat_lit 137, ⟨(.type "tuple"), none, (.seq #[] 0), #[]⟩) :: (nat_lit 139, ⟨(.type "code"), none, (.fields (List.toArray [(.str "split" 420), (.str "split" 421), (.str "/claim/cut.py" 422), (.int 89 0), (.int 1 0), (.int 0 0), (.int 0 0), (.int 3 0), (.ref 134), (.bool true), (.int 273 0), (.ref 135), .none, (.ref 136), (.ref 137), (.ref 138), (.int 428 0), (.int 89 0), (.str "/claim/cut.py" 429)])), #[]⟩) :: (nat_lit 140, ⟨(.type "function"), none, (.func ⟨"split", "split", ⟨[], [⟨"p", none, ⟨89, 10, 89, 11⟩⟩], none, [], [], none, []⟩, (.stmts [(.Assign [(.Name "p" ⟨90, 4, 90, 5⟩)] (.Call (.Name "fspath" ⟨90, 8, 90, 14⟩) [(.Name "p" ⟨90, 15, 90, 16⟩)] [] ⟨90, 8, 90, 17⟩) ⟨90, 4, 90, 17⟩), (.Assign [(.Name "sep" ⟨91, 4, 91, 7⟩)] (.Call (.Name "_get_sep" ⟨91, 10, 91, 18⟩) [(.Name "p" ⟨91, 19, 91, 20⟩)] [] ⟨91, 10, 91, 21⟩) ⟨91, 4, 91, 21⟩), (.Assign [(.Name "i" ⟨92, 4, 92, 5⟩)] (.BinOp (.Call (.Attribute (.Name "p" ⟨92, 8, 92, 9⟩) "rfind" ⟨92, 8, 92, 15⟩) [(.Name "sep" ⟨92, 16, 92, 19⟩)] [] ⟨92, 8, 92, 20⟩) .Add (.Constant (.int 1) 0 ⟨92, 23, 92, 24⟩) ⟨92, 8, 92, 24⟩) ⟨92, 4, 92, 24⟩), (.Assign [(.Tuple [(.Name "head" ⟨93, 4, 93, 8⟩), (.Name "tail" ⟨93, 10, 93, 14⟩)] 0 ⟨93, 4, 93, 14⟩)] (.Tuple [(.Subscript (.Name "p" ⟨93, 18, 93, 19⟩) (.Slice none (some (.Name "i" ⟨93, 21, 93, 22⟩)) none ⟨93, 20, 93, 22⟩) ⟨93, 18, 93, 23⟩), (.Subscript (.Name "p" ⟨93, 25, 93, 26⟩) (.Slice (some (.Name "i" ⟨93, 27, 93, 28⟩)) none none ⟨93, 27, 93, 29⟩) ⟨93, 25, 93, 30⟩)] 0 ⟨93, 17, 93, 31⟩) ⟨93, 4, 93, 31⟩), (.If (.BoolOp .And [(.Name "head" ⟨94, 7, 94, 11⟩), (.Compare (.Name "head" ⟨94, 16, 94, 20⟩) [.NotEq] [(.BinOp (.Name "sep" ⟨94, 24, 94, 27⟩) .Mult (.Call (.Name "len" ⟨94, 30, 94, 33⟩) [(.Name "head" ⟨94, 34, 94, 38⟩)] [] ⟨94, 30, 94, 39⟩) ⟨94, 24, 94, 39⟩)] ⟨94, 16, 94, 39⟩)] ⟨94, 7, 94, 39⟩) [(.Assign [(.Name "head" ⟨95, 8, 95, 12⟩)] (.Call (.Attribute (.Name "head" ⟨95, 15, 95, 19⟩) "rstrip" ⟨95, 15, 95, 26⟩) [(.Name "sep" ⟨95, 27, 95, 30⟩)] [] ⟨95, 15, 95, 31⟩) ⟨95, 8, 95, 31⟩)] [] ⟨94, 4, 95, 31⟩), (.Return (some (.Tuple [(.Name "head" ⟨96, 12, 96, 16⟩), (.Name "tail" ⟨96, 18, 96, 22⟩)] 0 ⟨96, 11, 96, 23⟩)) ⟨96, 4, 96, 23⟩)]), ⟨.function, [("p", .local), ("sep", .local), ("i", .local), ("head", .local), ("tail", .local), ("fspath", .globalImplicit), ("_get_sep", .globalImplicit), ("len", .globalImplicit)], false, false, []⟩, 3, [], .none, .none, .none, (.str "cpy313.posixpath" 399), none, (.ref 139), .none, 0⟩), #[]⟩) :: (nat_lit 141, ⟨(.type "tuple"), none, (.seq #[] 0), #[]⟩) :: (nat_lit 144, ⟨(.type "code"), none, (.fields (List.toArray [(.str "commonpath" 431), (.str "commonpath" 432), (.str "/claim/cut.py" 433), (.int 97 0), (.int 1 0), (.int 0 0), (.int 0 0), (.int 3 0), (.ref 141), (.bool true), (.int 273 0), (.ref 142), .none, .none, .none, (.ref 143), (.int 434 0), (.int 97 0), (.str "/claim/cut.py" 435)])), #[]⟩) :: (nat_lit 145, ⟨(.type "function"), none, (.func ⟨"commonpath", "commonpath", ⟨[], [⟨"paths", none, ⟨97, 15, 97, 20⟩⟩], none, [], [], none, []⟩, (.stmts [(.Assign [(.Name "paths" ⟨98, 4, 98, 9⟩)] (.Call (.Name "tuple" ⟨98, 12, 98, 17⟩) [(.Call (.Name "map" ⟨98, 18, 98, 21⟩) [(.Name "fspath" ⟨98, 22, 98, 28⟩), (.Name "paths" ⟨98, 30, 98, 35⟩)] [] ⟨98, 18, 98, 36⟩)] [] ⟨98, 12, 98, 37⟩) ⟨98, 4, 98, 37⟩), (.If (.UnaryOp .Not (.Name "paths" ⟨99, 11, 99, 16⟩) ⟨99, 7, 99, 16⟩) [(.Raise (some (.Call (.Name "ValueError" ⟨100, 14, 100, 24⟩) [(.Constant (.str "commonpath() arg is an empty sequence") 0 ⟨100, 25, 100, 64⟩)] [] ⟨100, 14, 100, 65⟩)) none ⟨100, 8, 100, 65⟩)] [] ⟨99, 4, 100, 65⟩), (.If (.Call (.Name "isinstance" ⟨101, 7, 101, 17⟩) [(.Subscript (.Name "paths" ⟨101, 18, 101, 23⟩) (.Constant (.int 0) 0 ⟨101, 24, 101, 25⟩) ⟨101, 18, 101, 26⟩), (.Name "bytes" ⟨101, 28, 101, 33⟩)] [] ⟨101, 7, 101, 34⟩) [(.Assign [(.Name "sep" ⟨102, 8, 102, 11⟩)] (.Constant (.bytes [47]) 0 ⟨102, 14, 102, 18⟩) ⟨102, 8, 102, 18⟩), (.Assign [(.Name "curdir" ⟨103, 8, 103, 14⟩)] (.Constant (.bytes [46]) 0 ⟨103, 17, 103, 21⟩) ⟨103, 8, 103, 21⟩)] [(.Assign [(.Name "sep" ⟨105, 8, 105, 11⟩)] (.Constant (.str "/") 0 ⟨105, 14, 105, 17⟩) ⟨105, 8, 105, 17⟩), (.Assign [(.Name "curdir" ⟨106, 8, 106, 14⟩)] (.Constant (.str ".") 0 ⟨106, 17, 106, 20⟩) ⟨106, 8, 106, 20⟩)] ⟨101, 4, 106, 20⟩), (.Try [(.Assign [(.Name "split_paths" ⟨108, 8, 108, 19⟩)] (.ListComp (.Call (.Attribute (.Name "path" ⟨108, 23, 108, 27⟩) "split" ⟨108, 23, 108, 33⟩) [(.Name "sep" ⟨108, 34, 108, 37⟩)] [] ⟨108, 23, 108, 38⟩) [⟨(.Name "path" ⟨108, 43, 108, 47⟩), (.Name "paths" ⟨108, 51, 108, 56⟩), [], 0⟩] ⟨.function, [(".0", .local), ("path", .local), ("sep", .free)], false, false, []⟩ ⟨108, 22, 108, 57⟩) ⟨108, 8, 108, 57⟩), (.Try [(.Assign [(.Tuple [(.Name "isabs" ⟨110, 12, 110, 17⟩)] 0 ⟨110, 12, 110, 18⟩)] (.SetComp (.Call (.Attribute (.Name "p" ⟨110, 22, 110, 23⟩) "startswith" ⟨110, 22, 110, 34⟩) [(.Name "sep" ⟨110, 35, 110, 38⟩)] [] ⟨110, 22, 110, 39⟩) [⟨(.Name "p" ⟨110, 44, 110, 45⟩), (.Name "paths" ⟨110, 49, 110, 54⟩), [], 0⟩] ⟨.function, [(".0", .local), ("p", .local), ("sep", .free)], false, false, []⟩ ⟨110, 21, 110, 55⟩) ⟨110, 12, 110, 55⟩)] [⟨(some (.Name "ValueError" ⟨111, 15, 111, 25⟩)), none, [(.Raise (some (.Call (.Name "ValueError" ⟨112, 18, 112, 28⟩) [(.Constant (.str "Can't mix absolute and relative paths") 0 ⟨112, 29, 112, 68⟩)] [] ⟨112, 18, 112, 69⟩)) (some (.Constant .none 0 ⟨112, 75, 112, 79⟩)) ⟨112, 12, 112, 79⟩)], ⟨111, 8, 112, 79⟩⟩] [] [] ⟨109, 8, 112, 79⟩), (.Assign [(.Name "split_paths" ⟨113, 8, 113, 19⟩)] (.ListComp (.ListComp (.Name "c" ⟨113, 24, 113, 25⟩) [⟨(.Name "c" ⟨113, 30, 113, 31⟩), (.Name "s" ⟨113, 35, 113, 36⟩), [(.BoolOp .And [(.Name "c" ⟨113, 40, 113, 41⟩), (.Compare (.Name "c" ⟨113, 46, 113, 47⟩) [.NotEq] [(.Name "curdir" ⟨113, 51, 113, 57⟩)] ⟨113, 46, 113, 57⟩)] ⟨113, 40, 113, 57⟩)], 0⟩] ⟨.function, [(".0", .local), ("c", .local), ("curdir", .free)], false, false, []⟩ ⟨113, 23, 113, 58⟩) [⟨(.Name "s" ⟨113, 63, 113, 64⟩), (.Name "split_paths" ⟨113, 68, 113, 79⟩), [], 0⟩] ⟨.function, [(".0", .local), ("s", .local), ("curdir", .free)], false, false, []⟩ ⟨113, 22, 113, 80⟩) ⟨113, 8, 113, 80⟩), (.Assign [(.Name "s1" ⟨114, 8, 114, 10⟩)] (.Call (.Name "min" ⟨114, 13, 114, 16⟩) [(.Name "split_paths" ⟨114, 17, 114, 28⟩)] [] ⟨114, 13, 114, 29⟩) ⟨114, 8, 114, 29⟩), (.Assign [(.Name "s2" ⟨115, 8, 115, 10⟩)] (.Call (.Name "max" ⟨115, 13, 115, 16⟩) [(.Name "split_paths" ⟨115, 17, 115, 28⟩)] [] ⟨115, 13, 115, 29⟩) ⟨115, 8, 115, 29⟩), (.Assign [(.Name "common" ⟨116, 8, 116, 14⟩)] (.Name "s1" ⟨116, 17, 116, 19⟩) ⟨116, 8, 116, 19⟩), (.For (.Tuple [(.Name "i" ⟨117, 12, 117, 13⟩), (.Name "c" ⟨117, 15, 117, 16⟩)] 0 ⟨117, 12, 117, 16⟩) (.Call (.Name "enumerate" ⟨117, 20, 117, 29⟩) [(.Name "s1" ⟨117, 30, 117, 32⟩)] [] ⟨117, 20, 117, 33⟩) [(.If (.Compare (.Name "c" ⟨118, 15, 118, 16⟩) [.NotEq] [(.Subscript (.Name "s2" ⟨118, 20, 118, 22⟩) (.Name "i" ⟨118, 23, 118, 24⟩) ⟨118, 20, 118, 25⟩)] ⟨118, 15, 118, 25⟩) [(.Assign [(.Name "common" ⟨119, 16, 119, 22⟩)] (.Subscript (.Name "s1" ⟨119, 25, 119, 27⟩) (.Slice none (some (.Name "i" ⟨119, 29, 119, 30⟩)) none ⟨119, 28, 119, 30⟩) ⟨119, 25, 119, 31⟩) ⟨119, 16, 119, 31⟩), (.Break ⟨120, 16, 120, 21⟩)] [] ⟨118, 12, 120, 21⟩)] [] ⟨117, 8, 120, 21⟩), (.Assign [(.Name "prefix" ⟨121, 8, 121, 14⟩)] (.IfExp (.Name "isabs" ⟨121, 24, 121, 29⟩) (.Name "sep" ⟨121, 17, 121, 20⟩) (.Subscript (.Name "sep" ⟨121, 35, 121, 38⟩) (.Slice none (some (.Constant (.int 0) 0 ⟨121, 40, 121, 41⟩)) none ⟨121, 39, 121, 41⟩) ⟨121, 35, 121, 42⟩) ⟨121, 17, 121, 42⟩) ⟨121, 8, 121, 42⟩), (.Return (some (.BinOp (.Name "prefix" ⟨122, 15, 122, 21⟩) .Add (.Call (.Attribute (.Name "sep" ⟨122, 24, 122, 27⟩) "join" ⟨122, 24, 122, 32⟩) [(.Name "common" ⟨122, 33, 122, 39⟩)] [] ⟨122, 24, 122, 40⟩) ⟨122, 15, 122, 40⟩)) ⟨122, 8, 122, 40⟩)] [⟨(some (.Tuple [(.Name "TypeError" ⟨123, 12, 123, 21⟩), (.Name "AttributeError" ⟨123, 23, 123, 37⟩)] 0 ⟨123, 11, 123, 38⟩)), none, [(.Expr (.Call (.Name "check_arg_types_genericpath" ⟨124, 8, 124, 35⟩) [(.Constant (.str "commonpath") 0 ⟨124, 36, 124, 48⟩), (.Starred (.Name "paths" ⟨124, 51, 124, 56⟩) ⟨124, 50, 124, 56⟩)] [] ⟨124, 8, 124, 57⟩) ⟨124, 8, 124, 57⟩), (.Raise none none ⟨125, 8, 125, 13⟩)], ⟨123, 4, 125, 13⟩⟩] [] [] ⟨107, 4, 125, 13⟩)]), ⟨.function, [("paths", .local), ("sep", .cell), ("curdir", .cell), ("split_paths", .local), ("isabs", .local), ("c", .local), ("s1", .local), ("s2", .local), ("common", .local), ("i", .local), ("prefix", .local), ("tuple", .globalImplicit), ("map", .globalImplicit), ("fspath", .globalImplicit), ("ValueError", .globalImplicit), ("isinstance", .globalImplicit), ("bytes", .globalImplicit), ("min", .globalImplicit), ("max", .globalImplicit), ("enumerate", .globalImplicit), ("TypeError", .globalImplicit), ("AttributeError", .globalImplicit), ("check_arg_types_genericpath", .globalImplicit)], false, false, [("fast", (.str "paths")), ("fast", (.str "sep")), ("fast", (.str "curdir")), ("fast", (.str "path")), ("fast", (.str "split_paths")), ("fast", (.str "p")), ("fast", (.str "isabs")), ("fast", (.str "s")), ("fast", (.str "c")), ("fast", (.str "s1")), ("fast", (.str "s2")), ("fast", (.str "common")), ("fast", (.str "i")), ("fast", (.str "prefix"))]⟩, 3, [], .none, .none, .none, (.str "cpy313.posixpath" 399), none, (.ref 144), .none, 0⟩), #[]⟩) :: (nat_lit 146, ⟨(.type "tuple"), none, (.seq #[] 0), #[]⟩) :: (nat_lit 148, ⟨(.type "tuple"), none, (.seq (List.toArray [(.str "num" 442), (.str "val" 443), (.str "AP" 444), (.str "mod" 445)]) 0), #[]⟩) :: (nat_lit 149, ⟨(.type "tuple"), none, (.seq #[] 0), #[]⟩) :: (nat_lit 151, ⟨(.type "code"), none, (.fields (List.toArray [(.str "Int2AP" 439), (.str "Int2AP" 440), (.str "/claim/cut.py" 441), (.int 127 0), (.int 1 0), (.int 0 0), (.int 0 0), (.int 3 0), (.ref 146), (.bool true), (.int 273 0), (.ref 147), .none, (.ref 148), (.ref 149), (.ref 150), (.int 446 0), (.int 127 0), (.str "/claim/cut.py" 447)])), #[]⟩) :: (nat_lit 152, ⟨(.type "function"), none, (.func ⟨"Int2AP", "Int2AP", ⟨[], [⟨"num", none, ⟨127, 11, 127, 14⟩⟩], none, [], [], none, []⟩, (.stmts [(.Assign [(.Name "val" ⟨128, 4, 128, 7⟩)] (.Constant (.bytes []) 0 ⟨128, 10, 128, 13⟩) ⟨128, 4, 128, 13⟩), (.Assign [(.Name "AP" ⟨129, 4, 129, 6⟩)] (.Constant (.bytes [65, 66, 67, 68, 69, 70, 71, 72, 73, 74, 75, 76, 77, 78, 79, 80]) 0 ⟨129, 9, 129, 28⟩) ⟨129, 4, 129, 28⟩), (.Assign [(.Name "num" ⟨130, 4, 130, 7⟩)] (.Call (.Name "int" ⟨130, 10, 130, 13⟩) [(.Call (.Name "abs" ⟨130, 14, 130, 17⟩) [(.Name "num" ⟨130, 18, 130, 21⟩)] [] ⟨130, 14, 130, 22⟩)] [] ⟨130, 10, 130, 23⟩) ⟨130, 4, 130, 23⟩), (.While (.Name "num" ⟨131, 10, 131, 13⟩) [(.Assign [(.Tuple [(.Name "num" ⟨132, 8, 132, 11⟩), (.Name "mod" ⟨132, 13, 132, 16⟩)] 0 ⟨132, 8, 132, 16⟩)] (.Call (.Name "divmod" ⟨132, 19, 132, 25⟩) [(.Name "num" ⟨132, 26, 132, 29⟩), (.Constant (.int 16) 0 ⟨132, 31, 132, 33⟩)] [] ⟨132, 19, 132, 34⟩) ⟨132, 8, 132, 34⟩), (.Assign [(.Name "val" ⟨133, 8, 133, 11⟩)] (.BinOp (.Subscript (.Name "AP" ⟨133, 14, 133, 16⟩) (.Slice (some (.Name "mod" ⟨133, 17, 133, 20⟩)) (some (.BinOp (.Name "mod" ⟨133, 21, 133, 24⟩) .Add (.Constant (.int 1) 0 ⟨133, 27, 133, 28⟩) ⟨133, 21, 133, 28⟩)) none ⟨133, 17, 133, 28⟩) ⟨133, 14, 133, 29⟩) .Add (.Name "val" ⟨133, 32, 133, 35⟩) ⟨133, 14, 133, 35⟩) ⟨133, 8, 133, 35⟩)] [] ⟨131, 4, 133, 35⟩), (.Return (some (.Name "val" ⟨134, 11, 134, 14⟩)) ⟨134, 4, 134, 14⟩)]), ⟨.function, [("num", .local), ("val", .local), ("AP", .local), ("mod", .local), ("int", .globalImplicit), ("abs", .globalImplicit), ("divmod", .globalImplicit)], false, false, []⟩, 3, [], .none, .none, .none, (.str "cpy313.imaplib" 437), none, (.ref 151), .none, 0⟩), #[]⟩) :: (nat_lit 153, ⟨(.type "tuple"), none, (.seq #[] 0), #[]⟩) :: (nat_lit 155, ⟨(.type "tuple"), none, (.seq (List.toArray [(.str "n" 454), (.str "what" 455)]) 0), #[]⟩) :: (nat_lit 156, ⟨(.type "tuple"), none, (.seq #[] 0), #[]⟩) :: (nat_lit 158, ⟨(.type "code"), none, (.fields (List.toArray [(.str "_whence" 451), (.str "_whence" 452), (.str "/claim/cut.py" 453), (.int 136 0), (.int 2 0), (.int 0 0), (.int 0 0), (.int 3 0), (.ref 153), (.bool true), (.int 273 0), (.ref 154), .none, (.ref 155), (.ref 156), (.ref 157), (.int 456 0), (.int 136 0), (.str "/claim/cut.py" 457)])), #[]⟩) :: (nat_lit 159, ⟨(.type "function"), none, (.func ⟨"_whence", "_whence", (fA (mS 23)), (fB (mS 23)), (fS (mS 23)), 3, [], .none, .none, .none, (.str "io" 449), none, (.ref 158), .none, 0⟩), #[]⟩) :: (nat_lit 160, ⟨(.type "tuple"), none, (.seq #[] 0), #[]⟩) :: (nat_lit 162, ⟨(.type "tuple"), none, (.seq (List.toArray [(.str "n" 462), (.str "what" 463)]) 0), #[]⟩) :: (nat_lit 163, ⟨(.type "tuple"), none, (.seq #[] 0), #[]⟩) :: (nat_lit 165, ⟨(.type "code"), none, (.fields (List.toArray [(.str "_index" 459), (.str "_index" 460), (.str "/claim/cut.py" 461), (.int 141 0), (.int 2 0), (.int 0 0), (.int 0 0), (.int 3 0), (.ref 160), (.bool true), (.int 273 0), (.ref 161), .none, (.ref 162), (.ref 163), (.ref 164), (.int 464 0), (.int 141 0), (.str "/claim/cut.py" 465)])), #[]⟩) :: (nat_lit 166, ⟨(.type "function"), none, (.func ⟨"_index", "_index", ⟨[], [⟨"n", none, ⟨141, 11, 141, 12⟩⟩, ⟨"what", none, ⟨141, 14, 141, 18⟩⟩], none, [], [], none, []⟩, (.stmts [(.If (.BoolOp .And [(.Compare (.Call (.Name "type" ⟨142, 7, 142, 11⟩) [(.Name "n" ⟨142, 12, 142, 13⟩)] [] ⟨142, 7, 142, 14⟩) [.IsNot] [(.Name "int" ⟨142, 22, 142, 25⟩)] ⟨142, 7, 142, 25⟩), (.Compare (.Call (.Name "type" ⟨142, 30, 142, 34⟩) [(.Name "n" ⟨142, 35, 142, 36⟩)] [] ⟨142, 30, 142, 37⟩) [.IsNot] [(.Name "bool" ⟨142, 45, 142, 49⟩)] ⟨142, 30, 142, 49⟩)] ⟨142, 7, 142, 49⟩) [(.Expr (.Call (.Name "_wall" ⟨143, 8, 143, 13⟩) [(.Constant (.int 8) 0 ⟨143, 14, 143, 15⟩)] [] ⟨143, 8, 143, 16⟩) ⟨143, 8, 143, 16⟩)] [] ⟨142, 4, 143, 16⟩), (.Assign [(.Name "n" ⟨144, 4, 144, 5⟩)] (.Call (.Name "int" ⟨144, 8, 144, 11⟩) [(.Name "n" ⟨144, 12, 144, 13⟩)] [] ⟨144, 8, 144, 14⟩) ⟨144, 4, 144, 14⟩), (.If (.BoolOp .Or [(.Compare (.Name "n" ⟨145, 7, 145, 8⟩) [.Gt] [(.Constant (.int 1099511627776) 0 ⟨145, 11, 145, 24⟩)] ⟨145, 7, 145, 24⟩), (.Compare (.Name "n" ⟨145, 28, 145, 29⟩) [.Lt] [(.UnaryOp .USub (.Constant (.int 1099511627776) 0 ⟨145, 33, 145, 46⟩) ⟨145, 32, 145, 46⟩)] ⟨145, 28, 145, 46⟩)] ⟨145, 7, 145, 46⟩) [(.Expr (.Call (.Name "_wall" ⟨146, 8, 146, 13⟩) [(.Constant (.int 9) 0 ⟨146, 14, 146, 15⟩)] [] ⟨146, 8, 146, 16⟩) ⟨146, 8, 146, 16⟩)] [] ⟨145, 4, 146, 16⟩), (.Return (some (.Name "n" ⟨147, 11, 147, 12⟩)) ⟨147, 4, 147, 12⟩)]), ⟨.function, [("n", .local), ("what", .local), ("type", .globalImplicit), ("int", .globalImplicit), ("bool", .globalImplicit), ("_wall", .globalImplicit)], false, false, []⟩, 3, [], .none, .none, .none, (.str "io" 449), none, (.ref 165), .none, 0⟩), #[]⟩) :: (nat_lit 167, ⟨(.type "tuple"), none, (.seq (List.toArray [(.type "OSError"), (.type "ValueError")]) 0), #[]⟩) :: (nat_lit 174, ⟨(.type "tuple"), none, (.seq #[] 0), #[]⟩) :: (nat_lit 175, ⟨(.type "dict"), none, (.dict (List.toArray [⟨(keyHash P "__module__"), (.str "__module__" 474), (.str "io" 479)⟩, ⟨(keyHash P "__firstlineno__"), (.str "__firstlineno__" 478), (.int 148 477)⟩, ⟨(keyHash P "__static_attributes__"), (.str "__static_attributes__" 481), (.ref 174)⟩, ⟨(keyHash P "__weakref__"), (.str "__weakref__" 483), (.ref 177)⟩, ⟨(keyHash P "__doc__"), (.str "__doc__" 484), .none⟩]) 3), #[]⟩) :: (nat_lit 176, ⟨(.type "type"), none, (.cls ⟨"UnsupportedOperation", [(.type "OSError"), (.type "ValueError")], [(.ref 176), (.type "OSError"), (.type "ValueError"), (.type "Exception"), (.type "BaseException"), (.type "object")], 175, "UnsupportedOperation", true, [], [], false, none, false⟩), (List.toArray [(some (.ref 167)), none, (some (.str "UnsupportedOperation" 467)), (some (.str "UnsupportedOperation" 475)), (some (.builtin "OSError.__new__")), (some (.bool true))])⟩) :: (nat_lit 177, ⟨(.type "getset_descriptor"), none, (.fields (List.toArray [(.str "__weakref__" 482), (.ref 176), (.builtin "ExceptionGroup.__weakref__"), .none])), #[]⟩) :: (nat_lit 187, ⟨(.type "tuple"), none, (.seq #[] 0), #[]⟩) :: (nat_lit 189, ⟨(.type "tuple"), none, (.seq (List.toArray [(.str "cls" 506), (.str "args" 507), (.str "kwargs" 508)]) 0), #[]⟩) :: (nat_lit 190, ⟨(.type "tuple"), none, (.seq #[] 0), #[]⟩) :: (nat_lit 192, ⟨(.type "code"), none, (.fields (List.toArray [(.str "__new__" 503), (.str "IOBase.__new__" 504), (.str "/claim/cut.py" 505), (.int 153 0), (.int 1 0), (.int 1 0), (.int 0 0), (.int 15 0), (.ref 187), (.bool true), (.int 273 0), (.ref 188), .none, (.ref 189), (.ref 190), (.ref 191), (.int 509 0), (.int 153 0), (.str "/claim/cut.py" 510)])), #[]⟩) :: (nat_lit 193, ⟨(.type "function"), none, (.func ⟨"__new__", "IOBase.__new__", (fA (nS 26 1)), (fB (nS 26 1)), (fS (nS 26 1)), 3, [], .none, .none, .none, (.str "io" 449), none, (.ref 192), .none, 0⟩), #[]⟩) :: (nat_lit 194, ⟨(.type "tuple"), none, (.seq #[] 0), #[]⟩) :: (nat_lit 195, ⟨(.type "dict"), none, (.dict (List.toArray [⟨(keyHash P "__module__"), (.str "__module__" 496), (.str "io" 501)⟩, ⟨(keyHash P "__firstlineno__"), (.str "__firstlineno__" 500), (.int 150 499)⟩, ⟨(keyHash P "__new__"), (.str "__new__" 511), (.ref 197)⟩, ⟨(keyHash P "__static_attributes__"), (.str "__static_attributes__" 512), (.ref 194)⟩, ⟨(keyHash P "__dict__"), (.str "__dict__" 515), (.ref 198)⟩, ⟨(keyHash P "__weakref__"), (.str "__weakref__" 517), (.ref 199)⟩, ⟨(keyHash P "__doc__"), (.str "__doc__" 518), .none⟩]) 4), #[]⟩) :: (nat_lit 196, ⟨(.type "type"), none, (.cls ⟨"IOBase", [(.type "object")], [(.ref 196), (.type "object")], 195, "IOBase", true, [], [(.ref 211), (.ref 223)], false, none, false⟩), (List.toArray [none, none, (some (.str "IOBase" 489)), (some (.str "IOBase" 497)), (some .none), (some (.bool true))])⟩) :: (nat_lit 197, ⟨(.type "staticmethod"), none, (.fields (List.toArray [(.ref 193)])), #[]⟩) :: (nat_lit 198, ⟨(.type "getset_descriptor"), none, (.fields (List.toArray [(.str "__dict__" 514), (.ref 196), (.builtin "function.__dict__"), (.builtin "function.__dict__#set")])), #[]⟩) :: (nat_lit 199, ⟨(.type "getset_descriptor"), none, (.fields (List.toArray [(.str "__weakref__" 516), (.ref 196), (.builtin "ExceptionGroup.__weakref__"), .none])), #[]⟩) :: (nat_lit 202, ⟨(.type "tuple"), none, (.seq (List.toArray [(.ref 196)]) 0), #[]⟩) :: (nat_lit 209, ⟨(.type "tuple"), none, (.seq #[] 0), #[]⟩) :: (nat_lit 210, ⟨(.type "dict"), none, (.dict (List.toArray [⟨(keyHash P "__module__"), (.str "__module__" 528), (.str "io" 533)⟩, ⟨(keyHash P "__firstlineno__"), (.str "__firstlineno__" 532), (.int 157 531)⟩, ⟨(keyHash P "__static_attributes__"), (.str "__static_attributes__" 535), (.ref 209)⟩, ⟨(keyHash P "__doc__"), (.str "__doc__" 536), .none⟩]) 2), #[]⟩) :: (nat_lit 211, ⟨(.type "type"), none, (.cls ⟨"BufferedIOBase", [(.ref 196)], [(.ref 211), (.ref 196), (.type "object")], 210, "BufferedIOBase", true, [], [(.ref 453)], false, none, false⟩), (List.toArray [(some (.ref 202)), none, (some (.str "BufferedIOBase" 521)), (some (.str "BufferedIOBase" 529)), (some .none), (some (.bool true))])⟩) :: (nat_lit 214, ⟨(.type "tuple"), none, (.seq (List.toArray [(.ref 196)]) 0), #[]⟩) :: (nat_lit 221, ⟨(.type "tuple"), none, (.seq #[] 0), #[]⟩) :: (nat_lit 222, ⟨(.type "dict"), none, (.dict (List.toArray [⟨(keyHash P "__module__"), (.str "__module__" 546), (.str "io" 551)⟩, ⟨(keyHash P "__firstlineno__"), (.str "__firstlineno__" 550), (.int 159 549)⟩, ⟨(keyHash P "__static_attributes__"), (.str "__static_attributes__" 553), (.ref 221)⟩, ⟨(keyHash P "__doc__"), (.str "__doc__" 554), .none⟩]) 2), #[]⟩) :: (nat_lit 223, ⟨(.type "type"), none, (.cls ⟨"TextIOBase", [(.ref 196)], [(.ref 223), (.ref 196), (.type "object")], 222, "TextIOBase", true, [], [(.ref 700)], false, none, false⟩), (List.toArray [(some (.ref 214)), none, (some (.str "TextIOBase" 539)), (some (.str "TextIOBase" 547)), (some .none), (some (.bool true))])⟩) :: (nat_lit 226, ⟨(.type "tuple"), none, (.seq (List.toArray [(.ref 211)]) 0), #[]⟩) :: (nat_lit 233, ⟨(.type "tuple"), none, (.seq (List.toArray [.none]) 0), #[]⟩) :: (nat_lit 234, ⟨(.type "tuple"), none, (.seq #[] 0), #[]⟩) :: (nat_lit 236, ⟨(.type "tuple"), none, (.seq (List.toArray [(.str "self" 574), (.str "initial_bytes" 575)]) 0), #[]⟩) :: (nat_lit 237, ⟨(.type "tuple"), none, (.seq #[] 0), #[]⟩) :: (nat_lit 239, ⟨(.type "code"), none, (.fields (List.toArray [(.str "__init__" 571), (.str "BytesIO.__init__" 572), (.str "/claim/cut.py" 573), (.int 164 0), (.int 2 0), (.int 0 0), (.int 0 0), (.int 3 0), (.ref 234), (.bool true), (.int 273 0), (.ref 235), .none, (.ref 236), (.ref 237), (.ref 238), (.int 576 0), (.int 164 0), (.str "/claim/cut.py" 577)])), #[]⟩) :: (nat_lit 240, ⟨(.type "function"), none, (.func ⟨"__init__", "BytesIO.__init__", (fA (nS 29 1)), (fB (nS 29 1)), (fS (nS 29 1)), 3, [], (.ref 233), .none, .none, (.str "io" 449), none, (.ref 239), .none, 0⟩), #[]⟩) :: (nat_lit 241, ⟨(.type "tuple"), none, (.seq #[] 0), #[]⟩) :: (nat_lit 243, ⟨(.type "tuple"), none, (.seq (List.toArray [(.str "self" 582)]) 0), #[]⟩) :: (nat_lit 244, ⟨(.type "tuple"), none, (.seq #[] 0), #[]⟩) :: (nat_lit 246, ⟨(.type "code"), none, (.fields (List.toArray [(.str "__check" 579), (.str "BytesIO.__check" 580), (.str "/claim/cut.py" 581), (.int 170 0), (.int 1 0), (.int 0 0), (.int 0 0), (.int 3 0), (.ref 241), (.bool true), (.int 273 0), (.ref 242), .none, (.ref 243), (.ref 244), (.ref 245), (.int 583 0), (.int 170 0), (.str "/claim/cut.py" 584)])), #[]⟩) :: (nat_lit 247, ⟨(.type "function"), none, (.func ⟨"__check", "BytesIO.__check", (fA (nS 29 2)), (fB (nS 29 2)), (fS (nS 29 2)), 3, [], .none, .none, .none, (.str "io" 449), none, (.ref 246), .none, 0⟩), #[]⟩) :: (nat_lit 248, ⟨(.type "tuple"), none, (.seq #[] 0), #[]⟩) :: (nat_lit 250, ⟨(.type "tuple"), none, (.seq (List.toArray [(.str "self" 589), (.str "limit" 590), (.str "start" 591), (.str "stop" 592), (.str "i" 593)]) 0), #[]⟩) :: (nat_lit 251, ⟨(.type "tuple"), none, (.seq #[] 0), #[]⟩) :: (nat_lit 253, ⟨(.type "code"), none, (.fields (List.toArray [(.str "__line" 586), (.str "BytesIO.__line" 587), (.str "/claim/cut.py" 588), (.int 174 0), (.int 2 0), (.int 0 0), (.int 0 0), (.int 3 0), (.ref 248), (.bool true), (.int 273 0), (.ref 249), .none, (.ref 250), (.ref 251), (.ref 252), (.int 594 0), (.int 174 0), (.str "/claim/cut.py" 595)])), #[]⟩) :: (nat_lit 254, ⟨(.type "function"), none, (.func ⟨"__line", "BytesIO.__line", (fA (nS 29 3)), (fB (nS 29 3)), (fS (nS 29 3)), 3, [], .none, .none, .none, (.str "io" 449), none, (.ref 253), .none, 0⟩), #[]⟩) :: (nat_lit 255, ⟨(.type "tuple"), none, (.seq #[] 0), #[]⟩) :: (nat_lit 257, ⟨(.type "tuple"), none, (.seq (List.toArray [(.str "self" 600)]) 0), #[]⟩) :: (nat_lit 258, ⟨(.type "tuple"), none, (.seq #[] 0), #[]⟩) :: (nat_lit 260, ⟨(.type "code"), none, (.fields (List.toArray [(.str "closed" 597), (.str "BytesIO.closed" 598), (.str "/claim/cut.py" 599), (.int 187 0), (.int 1 0), (.int 0 0), (.int 0 0), (.int 3 0), (.ref 255), (.bool true), (.int 273 0), (.ref 256), .none, (.ref 257), (.ref 258), (.ref 259), (.int 601 0), (.int 187 0), (.str "/claim/cut.py" 602)])), #[]⟩) :: (nat_lit 261, ⟨(.type "function"), none, (.func ⟨"closed", "BytesIO.closed", (fA (nS 29 4)), (fB (nS 29 4)), (fS (nS 29 4)), 3, [], .none, .none, .none, (.str "io" 449), none, (.ref 260), .none, 0⟩), #[]⟩) :: (nat_lit 262, ⟨(.type "property"), none, (.fields (List.toArray [(.ref 261), .none, .none, .none, (.str "closed" 604), (.bool false)])), #[]⟩) :: (nat_lit 263, ⟨(.type "tuple"), none, (.seq #[] 0), #[]⟩) :: (nat_lit 265, ⟨(.type "tuple"), none, (.seq (List.toArray [(.str "self" 608)]) 0), #[]⟩) :: (nat_lit 266, ⟨(.type "tuple"), none, (.seq #[] 0), #[]⟩) :: (nat_lit 268, ⟨(.type "code"), none, (.fields (List.toArray [(.str "close" 605), (.str "BytesIO.close" 606), (.str "/claim/cut.py" 607), (.int 191 0), (.int 1 0), (.int 0 0), (.int 0 0), (.int 3 0), (.ref 263), (.bool true), (.int 273 0), (.ref 264), .none, (.ref 265), (.ref 266), (.ref 267), (.int 609 0), (.int 191 0), (.str "/claim/cut.py" 610)])), #[]⟩) :: (nat_lit 269, ⟨(.type "function"), none, (.func ⟨"close", "BytesIO.close", (fA (nS 29 5)), (fB (nS 29 5)), (fS (nS 29 5)), 3, [], .none, .none, .none, (.str "io" 449), none, (.ref 268), .none, 0⟩), #[]⟩) :: (nat_lit 270, ⟨(.type "tuple"), none, (.seq #[] 0), #[]⟩) :: (nat_lit 272, ⟨(.type "tuple"), none, (.seq (List.toArray [(.str "self" 615)]) 0), #[]⟩) :: (nat_lit 273, ⟨(.type "tuple"), none, (.seq #[] 0), #[]⟩) :: (nat_lit 275, ⟨(.type "code"), none, (.fields (List.toArray [(.str "__enter__" 612), (.str "BytesIO.__enter__" 613), (.str "/claim/cut.py" 614), (.int 194 0), (.int 1 0), (.int 0 0), (.int 0 0), (.int 3 0), (.ref 270), (.bool true), (.int 273 0), (.ref 271), .none, (.ref 272), (.ref 273), (.ref 274), (.int 616 0), (.int 194 0), (.str "/claim/cut.py" 617)])), #[]⟩) :: (nat_lit 276, ⟨(.type "function"), none, (.func ⟨"__enter__", "BytesIO.__enter__", (fA (nS 29 6)), (fB (nS 29 6)), (fS (nS 29 6)), 3, [], .none, .none, .none, (.str "io" 449), none, (.ref 275), .none, 0⟩), #[]⟩) :: (nat_lit 277, ⟨(.type "tuple"), none, (.seq #[] 0), #[]⟩) :: (nat_lit 279, ⟨(.type "tuple"), none, (.seq (List.toArray [(.str "self" 622), (.str "args" 623)]) 0), #[]⟩) :: (nat_lit 280, ⟨(.type "tuple"), none, (.seq #[] 0), #[]⟩) :: (nat_lit 282, ⟨(.type "code"), none, (.fields (List.toArray [(.str "__exit__" 619), (.str "BytesIO.__exit__" 620), (.str "/claim/cut.py" 621), (.int 198 0), (.int 1 0), (.int 0 0), (.int 0 0), (.int 7 0), (.ref 277), (.bool true), (.int 273 0), (.ref 278), .none, (.ref 279), (.ref 280), (.ref 281), (.int 624 0), (.int 198 0), (.str "/claim/cut.py" 625)])), #[]⟩) :: (nat_lit 283, ⟨(.type "function"), none, (.func ⟨"__exit__", "BytesIO.__exit__", (fA (nS 29 7)), (fB (nS 29 7)), (fS (nS 29 7)), 3, [], .none, .none, .none, (.str "io" 449), none, (.ref 282), .none, 0⟩), #[]⟩) :: (nat_lit 284, ⟨(.type "tuple"), none, (.seq #[] 0), #[]⟩) :: (nat_lit 286, ⟨(.type "tuple"), none, (.seq (List.toArray [(.str "self" 630)]) 0), #[]⟩) :: (nat_lit 287, ⟨(.type "tuple"), none, (.seq #[] 0), #[]⟩) :: (nat_lit 289, ⟨(.type "code"), none, (.fields (List.toArray [(.str "readable" 627), (.str "BytesIO.readable" 628), (.str "/claim/cut.py" 629), (.int 201 0), (.int 1 0), (.int 0 0), (.int 0 0), (.int 3 0), (.ref 284), (.bool true), (.int 273 0), (.ref 285), .none, (.ref 286), (.ref 287), (.ref 288), (.int 631 0), (.int 201 0), (.str "/claim/cut.py" 632)])), #[]⟩) :: (nat_lit 290, ⟨(.type "function"), none, (.func ⟨"readable", "BytesIO.readable", (fA (nS 29 8)), (fB (nS 29 8)), (fS (nS 29 8)), 3, [], .none, .none, .none, (.str "io" 449), none, (.ref 289), .none, 0⟩), #[]⟩) :: (nat_lit 291, ⟨(.type "tuple"), none, (.seq #[] 0), #[]⟩) :: (nat_lit 293, ⟨(.type "tuple"), none, (.seq (List.toArray [(.str "self" 637)]) 0), #[]⟩) :: (nat_lit 294, ⟨(.type "tuple"), none, (.seq #[] 0), #[]⟩) :: (nat_lit 296, ⟨(.type "code"), none, (.fields (List.toArray [(.str "writable" 634), (.str "BytesIO.writable" 635), (.str "/claim/cut.py" 636), (.int 205 0), (.int 1 0), (.int 0 0), (.int 0 0), (.int 3 0), (.ref 291), (.bool true), (.int 273 0), (.ref 292), .none, (.ref 293), (.ref 294), (.ref 295), (.int 638 0), (.int 205 0), (.str "/claim/cut.py" 639)])), #[]⟩) :: (nat_lit 297, ⟨(.type "function"), none, (.func ⟨"writable", "BytesIO.writable", (fA (nS 29 9)), (fB (nS 29 9)), (fS (nS 29 9)), 3, [], .none, .none, .none, (.str "io" 449), none, (.ref 296), .none, 0⟩), #[]⟩) :: (nat_lit 298, ⟨(.type "tuple"), none, (.seq #[] 0), #[]⟩) :: (nat_lit 300, ⟨(.type "tuple"), none, (.seq (List.toArray [(.str "self" 644)]) 0), #[]⟩) :: (nat_lit 301, ⟨(.type "tuple"), none, (.seq #[] 0), #[]⟩) :: (nat_lit 303, ⟨(.type "code"), none, (.fields (List.toArray [(.str "seekable" 641), (.str "BytesIO.seekable" 642), (.str "/claim/cut.py" 643), (.int 209 0), (.int 1 0), (.int 0 0), (.int 0 0), (.int 3 0), (.ref 298), (.bool true), (.int 273 0), (.ref 299), .none, (.ref 300), (.ref 301), (.ref 302), (.int 645 0), (.int 209 0), (.str "/claim/cut.py" 646)])), #[]⟩) :: (nat_lit 304, ⟨(.type "function"), none, (.func ⟨"seekable", "BytesIO.seekable", (fA (nS 29 10)), (fB (nS 29 10)), (fS (nS 29 10)), 3, [], .none, .none, .none, (.str "io" 449), none, (.ref 303), .none, 0⟩), #[]⟩) :: (nat_lit 305, ⟨(.type "tuple"), none, (.seq #[] 0), #[]⟩) :: (nat_lit 307, ⟨(.type "tuple"), none, (.seq (List.toArray [(.str "self" 651)]) 0), #[]⟩) :: (nat_lit 308, ⟨(.type "tuple"), none, (.seq #[] 0), #[]⟩) :: (nat_lit 310, ⟨(.type "code"), none, (.fields (List.toArray [(.str "isatty" 648), (.str "BytesIO.isatty" 649), (.str "/claim/cut.py" 650), (.int 213 0), (.int 1 0), (.int 0 0), (.int 0 0), (.int 3 0), (.ref 305), (.bool true), (.int 273 0), (.ref 306), .none, (.ref 307), (.ref 308), (.ref 309), (.int 652 0), (.int 213 0), (.str "/claim/cut.py" 653)])), #[]⟩) :: (nat_lit 311, ⟨(.type "function"), none, (.func ⟨"isatty", "BytesIO.isatty", (fA (nS 29 11)), (fB (nS 29 11)), (fS (nS 29 11)), 3, [], .none, .none, .none, (.str "io" 449), none, (.ref 310), .none, 0⟩), #[]⟩) :: (nat_lit 312, ⟨(.type "tuple"), none, (.seq #[] 0), #[]⟩) :: (nat_lit 314, ⟨(.type "tuple"), none, (.seq (List.toArray [(.str "self" 658)]) 0), #[]⟩) :: (nat_lit 315, ⟨(.type "tuple"), none, (.seq #[] 0), #[]⟩) :: (nat_lit 317, ⟨(.type "code"), none, (.fields (List.toArray [(.str "flush" 655), (.str "BytesIO.flush" 656), (.str "/claim/cut.py" 657), (.int 217 0), (.int 1 0), (.int 0 0), (.int 0 0), (.int 3 0), (.ref 312), (.bool true), (.int 273 0), (.ref 313), .none, (.ref 314), (.ref 315), (.ref 316), (.int 659 0), (.int 217 0), (.str "/claim/cut.py" 660)])), #[]⟩) :: (nat_lit 318, ⟨(.type "function"), none, (.func ⟨"flush", "BytesIO.flush", (fA (nS 29 12)), (fB (nS 29 12)), (fS (nS 29 12)), 3, [], .none, .none, .none, (.str "io" 449), none, (.ref 317), .none, 0⟩), #[]⟩) :: (nat_lit 319, ⟨(.type "tuple"), none, (.seq #[] 0), #[]⟩) :: (nat_lit 321, ⟨(.type "tuple"), none, (.seq (List.toArray [(.str "self" 665)]) 0), #[]⟩) :: (nat_lit 322, ⟨(.type "tuple"), none, (.seq #[] 0), #[]⟩) :: (nat_lit 324, ⟨(.type "code"), none, (.fields (List.toArray [(.str "fileno" 662), (.str "BytesIO.fileno" 663), (.str "/claim/cut.py" 664), (.int 220 0), (.int 1 0), (.int 0 0), (.int 0 0), (.int 3 0), (.ref 319), (.bool true), (.int 273 0), (.ref 320), .none, (.ref 321), (.ref 322), (.ref 323), (.int 666 0), (.int 220 0), (.str "/claim/cut.py" 667)])), #[]⟩) :: (nat_lit 325, ⟨(.type "function"), none, (.func ⟨"fileno", "BytesIO.fileno", (fA (nS 29 13)), (fB (nS 29 13)), (fS (nS 29 13)), 3, [], .none, .none, .none, (.str "io" 449), none, (.ref 324), .none, 0⟩), #[]⟩) :: (nat_lit 326, ⟨(.type "tuple"), none, (.seq #[] 0), #[]⟩) :: (nat_lit 328, ⟨(.type "tuple"), none, (.seq (List.toArray [(.str "self" 672)]) 0), #[]⟩) :: (nat_lit 329, ⟨(.type "tuple"), none, (.seq #[] 0), #[]⟩) :: (nat_lit 331, ⟨(.type "code"), none, (.fields (List.toArray [(.str "detach" 669), (.str "BytesIO.detach" 670), (.str "/claim/cut.py" 671), (.int 223 0), (.int 1 0), (.int 0 0), (.int 0 0), (.int 3 0), (.ref 326), (.bool true), (.int 273 0), (.ref 327), .none, (.ref 328), (.ref 329), (.ref 330), (.int 673 0), (.int 223 0), (.str "/claim/cut.py" 674)])), #[]⟩) :: (nat_lit 332, ⟨(.type "function"), none, (.func ⟨"detach", "BytesIO.detach", (fA (nS 29 14)), (fB (nS 29 14)), (fS (nS 29 14)), 3, [], .none, .none, .none, (.str "io" 449), none, (.ref 331), .none, 0⟩), #[]⟩) :: (nat_lit 333, ⟨(.type "tuple"), none, (.seq #[] 0), #[]⟩) :: (nat_lit 335, ⟨(.type "tuple"), none, (.seq (List.toArray [(.str "self" 679)]) 0), #[]⟩) :: (nat_lit 336, ⟨(.type "tuple"), none, (.seq #[] 0), #[]⟩) :: (nat_lit 338, ⟨(.type "code"), none, (.fields (List.toArray [(.str "getvalue" 676), (.str "BytesIO.getvalue" 677), (.str "/claim/cut.py" 678), (.int 226 0), (.int 1 0), (.int 0 0), (.int 0 0), (.int 3 0), (.ref 333), (.bool true), (.int 273 0), (.ref 334), .none, (.ref 335), (.ref 336), (.ref 337), (.int 680 0), (.int 226 0), (.str "/claim/cut.py" 681)])), #[]⟩) :: (nat_lit 339, ⟨(.type "function"), none, (.func ⟨"getvalue", "BytesIO.getvalue", (fA (nS 29 15)), (fB (nS 29 15)), (fS (nS 29 15)), 3, [], .none, .none, .none, (.str "io" 449), none, (.ref 338), .none, 0⟩), #[]⟩) :: (nat_lit 340, ⟨(.type "tuple"), none, (.seq #[] 0), #[]⟩) :: (nat_lit 342, ⟨(.type "tuple"), none, (.seq (List.toArray [(.str "self" 686)]) 0), #[]⟩) :: (nat_lit 343, ⟨(.type "tuple"), none, (.seq #[] 0), #[]⟩) :: (nat_lit 345, ⟨(.type "code"), none, (.fields (List.toArray [(.str "getbuffer" 683), (.str "BytesIO.getbuffer" 684), (.str "/claim/cut.py" 685), (.int 229 0), (.int 1 0), (.int 0 0), (.int 0 0), (.int 3 0), (.ref 340), (.bool true), (.int 273 0), (.ref 341), .none, (.ref 342), (.ref 343), (.ref 344), (.int 687 0), (.int 229 0), (.str "/claim/cut.py" 688)])), #[]⟩) :: (nat_lit 346, ⟨(.type "function"), none, (.func ⟨"getbuffer", "BytesIO.getbuffer", (fA (nS 29 16)), (fB (nS 29 16)), (fS (nS 29 16)), 3, [], .none, .none, .none, (.str "io" 449), none, (.ref 345), .none, 0⟩), #[]⟩) :: (nat_lit 347, ⟨(.type "tuple"), none, (.seq #[] 0), #[]⟩) :: (nat_lit 349, ⟨(.type "tuple"), none, (.seq (List.toArray [(.str "self" 693)]) 0), #[]⟩) :: (nat_lit 350, ⟨(.type "tuple"), none, (.seq #[] 0), #[]⟩) :: (nat_lit 352, ⟨(.type "code"), none, (.fields (List.toArray [(.str "tell" 690), (.str "BytesIO.tell" 691), (.str "/claim/cut.py" 692), (.int 232 0), (.int 1 0), (.int 0 0), (.int 0 0), (.int 3 0), (.ref 347), (.bool true), (.int 273 0), (.ref 348), .none, (.ref 349), (.ref 350), (.ref 351), (.int 694 0), (.int 232 0), (.str "/claim/cut.py" 695)])), #[]⟩) :: (nat_lit 353, ⟨(.type "function"), none, (.func ⟨"tell", "BytesIO.tell", (fA (nS 29 17)), (fB (nS 29 17)), (fS (nS 29 17)), 3, [], .none, .none, .none, (.str "io" 449), none, (.ref 352), .none, 0⟩), #[]⟩) :: (nat_lit 354, ⟨(.type "tuple"), none, (.seq (List.toArray [(.int 0 697)]) 0), #[]⟩) :: (nat_lit 355, ⟨(.type "tuple"), none, (.seq #[] 0), #[]⟩) :: (nat_lit 357, ⟨(.type "tuple"), none, (.seq (List.toArray [(.str "self" 701), (.str "pos" 702), (.str "whence" 703)]) 0), #[]⟩) :: (nat_lit 358, ⟨(.type "tuple"), none, (.seq #[] 0), #[]⟩) :: (nat_lit 360, ⟨(.type "code"), none, (.fields (List.toArray [(.str "seek" 698), (.str "BytesIO.seek" 699), (.str "/claim/cut.py" 700), (.int 236 0), (.int 3 0), (.int 3 0), (.int 0 0), (.int 3 0), (.ref 355), (.bool true), (.int 273 0), (.ref 356), .none, (.ref 357), (.ref 358), (.ref 359), (.int 704 0), (.int 236 0), (.str "/claim/cut.py" 705)])), #[]⟩) :: (nat_lit 361, ⟨(.type "function"), none, (.func ⟨"seek", "BytesIO.seek", (fA (nS 29 18)), (fB (nS 29 18)), (fS (nS 29 18)), 3, [], (.ref 354), .none, .none, (.str "io" 449), none, (.ref 360), .none, 0⟩), #[]⟩) :: (nat_lit 362, ⟨(.type "tuple"), none, (.seq (List.toArray [.none]) 0), #[]⟩) :: (nat_lit 363, ⟨(.type "tuple"), none, (.seq #[] 0), #[]⟩) :: (nat_lit 365, ⟨(.type "tuple"), none, (.seq (List.toArray [(.str "self" 710), (.str "size" 711)]) 0), #[]⟩) :: (nat_lit 366, ⟨(.type "tuple"), none, (.seq #[] 0), #[]⟩) :: (nat_lit 368, ⟨(.type "code"), none, (.fields (List.toArray [(.str "truncate" 707), (.str "BytesIO.truncate" 708), (.str "/claim/cut.py" 709), (.int 253 0), (.int 2 0), (.int 2 0), (.int 0 0), (.int 3 0), (.ref 363), (.bool true), (.int 273 0), (.ref 364), .none, (.ref 365), (.ref 366), (.ref 367), (.int 712 0), (.int 253 0), (.str "/claim/cut.py" 713)])), #[]⟩) :: (nat_lit 369, ⟨(.type "function"), none, (.func ⟨"truncate", "BytesIO.truncate", (fA (nS 29 19)), (fB (nS 29 19)), (fS (nS 29 19)), 3, [], (.ref 362), .none, .none, (.str "io" 449), none, (.ref 368), .none, 0⟩), #[]⟩) :: (nat_lit 370, ⟨(.type "tuple"), none, (.seq (List.toArray [(.int (-1) 716)]) 0), #[]⟩) :: (nat_lit 371, ⟨(.type "tuple"), none, (.seq #[] 0), #[]⟩) :: (nat_lit 373, ⟨(.type "tuple"), none, (.seq (List.toArray [(.str "self" 720), (.str "size" 721), (.str "start" 722), (.str "stop" 723)]) 0), #[]⟩) :: (nat_lit 374, ⟨(.type "tuple"), none, (.seq #[] 0), #[]⟩) :: (nat_lit 376, ⟨(.type "code"), none, (.fields (List.toArray [(.str "read" 717), (.str "BytesIO.read" 718), (.str "/claim/cut.py" 719), (.int 256 0), (.int 2 0), (.int 2 0), (.int 0 0), (.int 3 0), (.ref 371), (.bool true), (.int 273 0), (.ref 372), .none, (.ref 373), (.ref 374), (.ref 375), (.int 724 0), (.int 256 0), (.str "/claim/cut.py" 725)])), #[]⟩) :: (nat_lit 377, ⟨(.type "function"), none, (.func ⟨"read", "BytesIO.read", (fA (nS 29 20)), (fB (nS 29 20)), (fS (nS 29 20)), 3, [], (.ref 370), .none, .none, (.str "io" 449), none, (.ref 376), .none, 0⟩), #[]⟩) :: (nat_lit 378, ⟨(.type "tuple"), none, (.seq (List.toArray [(.int (-1) 728)]) 0), #[]⟩) :: (nat_lit 379, ⟨(.type "tuple"), none, (.seq #[] 0), #[]⟩) :: (nat_lit 381, ⟨(.type "tuple"), none, (.seq (List.toArray [(.str "self" 732), (.str "size" 733)]) 0), #[]⟩) :: (nat_lit 382, ⟨(.type "tuple"), none, (.seq #[] 0), #[]⟩) :: (nat_lit 384, ⟨(.type "code"), none, (.fields (List.toArray [(.str "read1" 729), (.str "BytesIO.read1" 730), (.str "/claim/cut.py" 731), (.int 270 0), (.int 2 0), (.int 2 0), (.int 0 0), (.int 3 0), (.ref 379), (.bool true), (.int 273 0), (.ref 380), .none, (.ref 381), (.ref 382), (.ref 383), (.int 734 0), (.int 270 0), (.str "/claim/cut.py" 735)])), #[]⟩) :: (nat_lit 385, ⟨(.type "function"), none, (.func ⟨"read1", "BytesIO.read1", (fA (nS 29 21)), (fB (nS 29 21)), (fS (nS 29 21)), 3, [], (.ref 378), .none, .none, (.str "io" 449), none, (.ref 384), .none, 0⟩), #[]⟩) :: (nat_lit 386, ⟨(.type "tuple"), none, (.seq #[] 0), #[]⟩) :: (nat_lit 388, ⟨(.type "tuple"), none, (.seq (List.toArray [(.str "self" 740), (.str "buffer" 741), (.str "start" 742), (.str "n" 743)]) 0), #[]⟩) :: (nat_lit 389, ⟨(.type "tuple"), none, (.seq #[] 0), #[]⟩) :: (nat_lit 391, ⟨(.type "code"), none, (.fields (List.toArray [(.str "readinto" 737), (.str "BytesIO.readinto" 738), (.str "/claim/cut.py" 739), (.int 273 0), (.int 2 0), (.int 2 0), (.int 0 0), (.int 3 0), (.ref 386), (.bool true), (.int 273 0), (.ref 387), .none, (.ref 388), (.ref 389), (.ref 390), (.int 744 0), (.int 273 0), (.str "/claim/cut.py" 745)])), #[]⟩) :: (nat_lit 392, ⟨(.type "function"), none, (.func ⟨"readinto", "BytesIO.readinto", (fA (nS 29 22)), (fB (nS 29 22)), (fS (nS 29 22)), 3, [], .none, .none, .none, (.str "io" 449), none, (.ref 391), .none, 0⟩), #[]⟩) :: (nat_lit 393, ⟨(.type "tuple"), none, (.seq #[] 0), #[]⟩) :: (nat_lit 395, ⟨(.type "tuple"), none, (.seq (List.toArray [(.str "self" 750), (.str "buffer" 751)]) 0), #[]⟩) :: (nat_lit 396, ⟨(.type "tuple"), none, (.seq #[] 0), #[]⟩) :: (nat_lit 398, ⟨(.type "code"), none, (.fields (List.toArray [(.str "readinto1" 747), (.str "BytesIO.readinto1" 748), (.str "/claim/cut.py" 749), (.int 287 0), (.int 2 0), (.int 2 0), (.int 0 0), (.int 3 0), (.ref 393), (.bool true), (.int 273 0), (.ref 394), .none, (.ref 395), (.ref 396), (.ref 397), (.int 752 0), (.int 287 0), (.str "/claim/cut.py" 753)])), #[]⟩) :: (nat_lit 399, ⟨(.type "function"), none, (.func ⟨"readinto1", "BytesIO.readinto1", (fA (nS 29 23)), (fB (nS 29 23)), (fS (nS 29 23)), 3, [], .none, .none, .none, (.str "io" 449), none, (.ref 398), .none, 0⟩), #[]⟩) :: (nat_lit 400, ⟨(.type "tuple"), none, (.seq (List.toArray [(.int (-1) 756)]) 0), #[]⟩) :: (nat_lit 401, ⟨(.type "tuple"), none, (.seq #[] 0), #[]⟩) :: (nat_lit 403, ⟨(.type "tuple"), none, (.seq (List.toArray [(.str "self" 760), (.str "size" 761)]) 0), #[]⟩) :: (nat_lit 404, ⟨(.type "tuple"), none, (.seq #[] 0), #[]⟩) :: (nat_lit 406, ⟨(.type "code"), none, (.fields (List.toArray [(.str "readline" 757), (.str "BytesIO.readline" 758), (.str "/claim/cut.py" 759), (.int 290 0), (.int 2 0), (.int 2 0), (.int 0 0), (.int 3 0), (.ref 401), (.bool true), (.int 273 0), (.ref 402), .none, (.ref 403), (.ref 404), (.ref 405), (.int 762 0), (.int 290 0), (.str "/claim/cut.py" 763)])), #[]⟩) :: (nat_lit 407, ⟨(.type "function"), none, (.func ⟨"readline", "BytesIO.readline", (fA (nS 29 24)), (fB (nS 29 24)), (fS (nS 29 24)), 3, [], (.ref 400), .none, .none, (.str "io" 449), none, (.ref 406), .none, 0⟩), #[]⟩) :: (nat_lit 408, ⟨(.type "tuple"), none, (.seq (List.toArray [.none]) 0), #[]⟩) :: (nat_lit 409, ⟨(.type "tuple"), none, (.seq #[] 0), #[]⟩) :: (nat_lit 411, ⟨(.type "tuple"), none, (.seq (List.toArray [(.str "self" 768), (.str "size" 769)]) 0), #[]⟩) :: (nat_lit 412, ⟨(.type "tuple"), none, (.seq #[] 0), #[]⟩) :: (nat_lit 414, ⟨(.type "code"), none, (.fields (List.toArray [(.str "readlines" 765), (.str "BytesIO.readlines" 766), (.str "/claim/cut.py" 767), (.int 297 0), (.int 2 0), (.int 2 0), (.int 0 0), (.int 3 0), (.ref 409), (.bool true), (.int 273 0), (.ref 410), .none, (.ref 411), (.ref 412), (.ref 413), (.int 770 0), (.int 297 0), (.str "/claim/cut.py" 771)])), #[]⟩) :: (nat_lit 415, ⟨(.type "function"), none, (.func ⟨"readlines", "BytesIO.readlines", (fA (nS 29 25)), (fB (nS 29 25)), (fS (nS 29 25)), 3, [], (.ref 408), .none, .none, (.str "io" 449), none, (.ref 414), .none, 0⟩), #[]⟩) :: (nat_lit 416, ⟨(.type "tuple"), none, (.seq #[] 0), #[]⟩) :: (nat_lit 418, ⟨(.type "tuple"), none, (.seq (List.toArray [(.str "self" 776)]) 0), #[]⟩) :: (nat_lit 419, ⟨(.type "tuple"), none, (.seq #[] 0), #[]⟩) :: (nat_lit 421, ⟨(.type "code"), none, (.fields (List.toArray [(.str "__iter__" 773), (.str "BytesIO.__iter__" 774), (.str "/claim/cut.py" 775), (.int 300 0), (.int 1 0), (.int 0 0), (.int 0 0), (.int 3 0), (.ref 416), (.bool true), (.int 273 0), (.ref 417), .none, (.ref 418), (.ref 419), (.ref 420), (.int 777 0), (.int 300 0), (.str "/claim/cut.py" 778)])), #[]⟩) :: (nat_lit 422, ⟨(.type "function"), none, (.func ⟨"__iter__", "BytesIO.__iter__", (fA (nS 29 26)), (fB (nS 29 26)), (fS (nS 29 26)), 3, [], .none, .none, .none, (.str "io" 449), none, (.ref 421), .none, 0⟩), #[]⟩) :: (nat_lit 423, ⟨(.type "tuple"), none, (.seq #[] 0), #[]⟩) :: (nat_lit 425, ⟨(.type "tuple"), none, (.seq (List.toArray [(.str "self" 783), (.str "line" 784)]) 0), #[]⟩) :: (nat_lit 426, ⟨(.type "tuple"), none, (.seq #[] 0), #[]⟩) :: (nat_lit 428, ⟨(.type "code"), none, (.fields (List.toArray [(.str "__next__" 780), (.str "BytesIO.__next__" 781), (.str "/claim/cut.py" 782), (.int 303 0), (.int 1 0), (.int 0 0), (.int 0 0), (.int 3 0), (.ref 423), (.bool true), (.int 273 0), (.ref 424), .none, (.ref 425), (.ref 426), (.ref 427), (.int 785 0), (.int 303 0), (.str "/claim/cut.py" 786)])), #[]⟩) :: (nat_lit 429, ⟨(.type "function"), none, (.func ⟨"__next__", "BytesIO.__next__", (fA (nS 29 27)), (fB (nS 29 27)), (fS (nS 29 27)), 3, [], .none, .none, .none, (.str "io" 449), none, (.ref 428), .none, 0⟩), #[]⟩) :: (nat_lit 430, ⟨(.type "tuple"), none, (.seq #[] 0), #[]⟩) :: (nat_lit 432, ⟨(.type "tuple"), none, (.seq (List.toArray [(.str "self" 791), (.str "b" 792), (.str "n" 793), (.str "start" 794)]) 0), #[]⟩) :: (nat_lit 433, ⟨(.type "tuple"), none, (.seq #[] 0), #[]⟩) :: (nat_lit 435, ⟨(.type "code"), none, (.fields (List.toArray [(.str "write" 788), (.str "BytesIO.write" 789), (.str "/claim/cut.py" 790), (.int 310 0), (.int 2 0), (.int 2 0), (.int 0 0), (.int 3 0), (.ref 430), (.bool true), (.int 273 0), (.ref 431), .none, (.ref 432), (.ref 433), (.ref 434), (.int 795 0), (.int 310 0), (.str "/claim/cut.py" 796)])), #[]⟩) :: (nat_lit 436, ⟨(.type "function"), none, (.func ⟨"write", "BytesIO.write", (fA (nS 29 28)), (fB (nS 29 28)), (fS (nS 29 28)), 3, [], .none, .none, .none, (.str "io" 449), none, (.ref 435), .none, 0⟩), #[]⟩) :: (nat_lit 437, ⟨(.type "tuple"), none, (.seq #[] 0), #[]⟩) :: (nat_lit 439, ⟨(.type "tuple"), none, (.seq (List.toArray [(.str "self" 801), (.str "lines" 802)]) 0), #[]⟩) :: (nat_lit 440, ⟨(.type "tuple"), none, (.seq #[] 0), #[]⟩) :: (nat_lit 442, ⟨(.type "code"), none, (.fields (List.toArray [(.str "writelines" 798), (.str "BytesIO.writelines" 799), (.str "/claim/cut.py" 800), (.int 326 0), (.int 2 0), (.int 2 0), (.int 0 0), (.int 3 0), (.ref 437), (.bool true), (.int 273 0), (.ref 438), .none, (.ref 439), (.ref 440), (.ref 441), (.int 803 0), (.int 326 0), (.str "/claim/cut.py" 804)])), #[]⟩) :: (nat_lit 443, ⟨(.type "function"), none, (.func ⟨"writelines", "BytesIO.writelines", (fA (nS 29 29)), (fB (nS 29 29)), (fS (nS 29 29)), 3, [], .none, .none, .none, (.str "io" 449), none, (.ref 442), .none, 0⟩), #[]⟩) :: (nat_lit 444, ⟨(.type "tuple"), none, (.seq #[] 0), #[]⟩) :: (nat_lit 446, ⟨(.type "tuple"), none, (.seq (List.toArray [(.str "self" 809)]) 0), #[]⟩) :: (nat_lit 447, ⟨(.type "tuple"), none, (.seq #[] 0), #[]⟩) :: (nat_lit 449, ⟨(.type "code"), none, (.fields (List.toArray [(.str "__repr__" 806), (.str "BytesIO.__repr__" 807), (.str "/claim/cut.py" 808), (.int 329 0), (.int 1 0), (.int 0 0), (.int 0 0), (.int 3 0), (.ref 444), (.bool true), (.int 273 0), (.ref 445), .none, (.ref 446), (.ref 447), (.ref 448), (.int 810 0), (.int 329 0), (.str "/claim/cut.py" 811)])), #[]⟩) :: (nat_lit 450, ⟨(.type "function"), none, (.func ⟨"__repr__", "BytesIO.__repr__", (fA (nS 29 30)), (fB (nS 29 30)), (fS (nS 29 30)), 3, [], .none, .none, .none, (.str "io" 449), none, (.ref 449), .none, 0⟩), #[]⟩) :: (nat_lit 451, ⟨(.type "tuple"), none, (.seq (List.toArray [(.str "__buf" 813), (.str "__pos" 814)]) 0), #[]⟩) :: (nat_lit 452, ⟨(.type "dict"), none, (.dict (List.toArray [⟨(keyHash P "__module__"), (.str "__module__" 564), (.str "_io" 569)⟩, ⟨(keyHash P "__firstlineno__"), (.str "__firstlineno__" 568), (.int 161 567)⟩, ⟨(keyHash P "__init__"), (.str "__init__" 578), (.ref 240)⟩, ⟨(keyHash P "_BytesIO__check"), (.str "_BytesIO__check" 585), (.ref 247)⟩, ⟨(keyHash P "_BytesIO__line"), (.str "_BytesIO__line" 596), (.ref 254)⟩, ⟨(keyHash P "closed"), (.str "closed" 604), (.ref 262)⟩, ⟨(keyHash P "close"), (.str "close" 611), (.ref 269)⟩, ⟨(keyHash P "__enter__"), (.str "__enter__" 618), (.ref 276)⟩, ⟨(keyHash P "__exit__"), (.str "__exit__" 626), (.ref 283)⟩, ⟨(keyHash P "readable"), (.str "readable" 633), (.ref 290)⟩, ⟨(keyHash P "writable"), (.str "writable" 640), (.ref 297)⟩, ⟨(keyHash P "seekable"), (.str "seekable" 647), (.ref 304)⟩, ⟨(keyHash P "isatty"), (.str "isatty" 654), (.ref 311)⟩, ⟨(keyHash P "flush"), (.str "flush" 661), (.ref 318)⟩, ⟨(keyHash P "fileno"), (.str "fileno" 668), (.ref 325)⟩, ⟨(keyHash P "detach"), (.str "detach" 675), (.ref 332)⟩, ⟨(keyHash P "getvalue"), (.str "getvalue" 682), (.ref 339)⟩, ⟨(keyHash P "getbuffer"), (.str "getbuffer" 689), (.ref 346)⟩, ⟨(keyHash P "tell"), (.str "tell" 696), (.ref 353)⟩, ⟨(keyHash P "seek"), (.str "seek" 706), (.ref 361)⟩, ⟨(keyHash P "truncate"), (.str "truncate" 714), (.ref 369)⟩, ⟨(keyHash P "read"), (.str "read" 726), (.ref 377)⟩, ⟨(keyHash P "read1"), (.str "read1" 736), (.ref 385)⟩, ⟨(keyHash P "readinto"), (.str "readinto" 746), (.ref 392)⟩, ⟨(keyHash P "readinto1"), (.str "readinto1" 754), (.ref 399)⟩, ⟨(keyHash P "readline"), (.str "readline" 764), (.ref 407)⟩, ⟨(keyHash P "readlines"), (.str "readlines" 772), (.ref 415)⟩, ⟨(keyHash P "__iter__"), (.str "__iter__" 779), (.ref 422)⟩, ⟨(keyHash P "__next__"), (.str "__next__" 787), (.ref 429)⟩, ⟨(keyHash P "write"), (.str "write" 797), (.ref 436)⟩, ⟨(keyHash P "writelines"), (.str "writelines" 805), (.ref 443)⟩, ⟨(keyHash P "__repr__"), (.str "__repr__" 812), (.ref 450)⟩, ⟨(keyHash P "__static_attributes__"), (.str "__static_attributes__" 815), (.ref 451)⟩, ⟨(keyHash P "__doc__"), (.str "__doc__" 816), .none⟩]) 2), #[]⟩) :: (nat_lit 453, ⟨(.type "type"), none, (.cls ⟨"BytesIO", [(.ref 211)], [(.ref 453), (.ref 211), (.ref 196), (.type "object")], 452, "BytesIO", true, [], [], false, none, false⟩), (List.toArray [(some (.ref 226)), none, (some (.str "BytesIO" 557)), (some (.str "BytesIO" 565)), (some .none), (some (.bool true))])⟩) :: (nat_lit 456, ⟨(.type "tuple"), none, (.seq (List.toArray [(.ref 223)]) 0), #[]⟩) :: (nat_lit 463, ⟨(.type "tuple"), none, (.seq (List.toArray [(.str "" 833), (.str "\n" 834)]) 0), #[]⟩) :: (nat_lit 464, ⟨(.type "tuple"), none, (.seq #[] 0), #[]⟩) :: (nat_lit 466, ⟨(.type "tuple"), none, (.seq (List.toArray [(.str "self" 838), (.str "initial_value" 839), (.str "newline" 840)]) 0), #[]⟩) :: (nat_lit 467, ⟨(.type "tuple"), none, (.seq #[] 0), #[]⟩) :: (nat_lit 469, ⟨(.type "code"), none, (.fields (List.toArray [(.str "__init__" 835), (.str "StringIO.__init__" 836), (.str "/claim/cut.py" 837), (.int 334 0), (.int 3 0), (.int 0 0), (.int 0 0), (.int 3 0), (.ref 464), (.bool true), (.int 273 0), (.ref 465), .none, (.ref 466), (.ref 467), (.ref 468), (.int 841 0), (.int 334 0), (.str "/claim/cut.py" 842)])), #[]⟩) :: (nat_lit 470, ⟨(.type "function"), none, (.func ⟨"__init__", "StringIO.__init__", ⟨[], [⟨"self", none, ⟨334, 17, 334, 21⟩⟩, ⟨"initial_value", none, ⟨334, 23, 334, 36⟩⟩, ⟨"newline", none, ⟨334, 41, 334, 48⟩⟩], none, [], [], none, [(.Constant (.str "") 0 ⟨334, 37, 334, 39⟩), (.Constant (.str "\n") 0 ⟨334, 49, 334, 53⟩)]⟩, (.stmts [(.If (.BoolOp .And [(.Compare (.Name "newline" ⟨335, 11, 335, 18⟩) [.IsNot] [(.Constant .none 0 ⟨335, 26, 335, 30⟩)] ⟨335, 11, 335, 30⟩), (.Compare (.Call (.Name "type" ⟨335, 35, 335, 39⟩) [(.Name "newline" ⟨335, 40, 335, 47⟩)] [] ⟨335, 35, 335, 48⟩) [.IsNot] [(.Name "str" ⟨335, 56, 335, 59⟩)] ⟨335, 35, 335, 59⟩)] ⟨335, 11, 335, 59⟩) [(.Expr (.Call (.Name "_wall" ⟨336, 12, 336, 17⟩) [(.Constant (.int 24) 0 ⟨336, 18, 336, 20⟩)] [] ⟨336, 12, 336, 21⟩) ⟨336, 12, 336, 21⟩)] [] ⟨335, 8, 336, 21⟩), (.If (.BoolOp .And [(.Compare (.Name "newline" ⟨337, 11, 337, 18⟩) [.IsNot] [(.Constant .none 0 ⟨337, 26, 337, 30⟩)] ⟨337, 11, 337, 30⟩), (.Compare (.Name "newline" ⟨337, 35, 337, 42⟩) [.NotEq] [(.Constant (.str "") 0 ⟨337, 46, 337, 48⟩)] ⟨337, 35, 337, 48⟩), (.Compare (.Name "newline" ⟨337, 54, 337, 61⟩) [.NotEq] [(.Constant (.str "\n") 0 ⟨337, 65, 337, 69⟩)] ⟨337, 54, 337, 69⟩), (.Compare (.Name "newline" ⟨337, 76, 337, 83⟩) [.NotEq] [(.Constant (.str "\x0d") 0 ⟨337, 87, 337, 91⟩)] ⟨337, 76, 337, 91⟩), (.Compare (.Name "newline" ⟨337, 98, 337, 105⟩) [.NotEq] [(.Constant (.str "\x0d\n") 0 ⟨337, 109, 337, 115⟩)] ⟨337, 98, 337, 115⟩)] ⟨337, 11, 337, 116⟩) [(.Raise (some (.Call (.Name "ValueError" ⟨338, 18, 338, 28⟩) [(.JoinedStr [(.Constant (.str "illegal newline value: ") 0 ⟨338, 31, 338, 54⟩), (.FormattedValue (.Name "newline" ⟨338, 55, 338, 62⟩) 114 none ⟨338, 54, 338, 65⟩)] ⟨338, 29, 338, 66⟩)] [] ⟨338, 18, 338, 67⟩)) none ⟨338, 12, 338, 67⟩)] [] ⟨337, 8, 338, 67⟩), (.If (.BoolOp .And [(.Compare (.Name "initial_value" ⟨339, 11, 339, 24⟩) [.IsNot] [(.Constant .none 0 ⟨339, 32, 339, 36⟩)] ⟨339, 11, 339, 36⟩), (.Compare (.Call (.Name "type" ⟨339, 41, 339, 45⟩) [(.Name "initial_value" ⟨339, 46, 339, 59⟩)] [] ⟨339, 41, 339, 60⟩) [.IsNot] [(.Name "str" ⟨339, 68, 339, 71⟩)] ⟨339, 41, 339, 71⟩)] ⟨339, 11, 339, 71⟩) [(.Expr (.Call (.Name "_wall" ⟨340, 12, 340, 17⟩) [(.Constant (.int 25) 0 ⟨340, 18, 340, 20⟩)] [] ⟨340, 12, 340, 21⟩) ⟨340, 12, 340, 21⟩)] [] ⟨339, 8, 340, 21⟩), (.Assign [(.Attribute (.Name "self" ⟨341, 8, 341, 12⟩) "_StringIO__newline" ⟨341, 8, 341, 22⟩)] (.Name "newline" ⟨341, 25, 341, 32⟩) ⟨341, 8, 341, 32⟩), (.Assign [(.Attribute (.Name "self" ⟨342, 8, 342, 12⟩) "_StringIO__buf" ⟨342, 8, 342, 18⟩)] (.Constant (.str "") 0 ⟨342, 21, 342, 23⟩) ⟨342, 8, 342, 23⟩), (.Assign [(.Attribute (.Name "self" ⟨343, 8, 343, 12⟩) "_StringIO__pos" ⟨343, 8, 343, 18⟩)] (.Constant (.int 0) 0 ⟨343, 21, 343, 22⟩) ⟨343, 8, 343, 22⟩), (.If (.Compare (.Name "initial_value" ⟨344, 11, 344, 24⟩) [.IsNot] [(.Constant .none 0 ⟨344, 32, 344, 36⟩)] ⟨344, 11, 344, 36⟩) [(.Assign [(.Attribute (.Name "self" ⟨345, 12, 345, 16⟩) "_StringIO__buf" ⟨345, 12, 345, 22⟩)] (.Call (.Attribute (.Name "self" ⟨345, 25, 345, 29⟩) "_StringIO__translated" ⟨345, 25, 345, 42⟩) [(.Name "initial_value" ⟨345, 43, 345, 56⟩)] [] ⟨345, 25, 345, 57⟩) ⟨345, 12, 345, 57⟩)] [] ⟨344, 8, 345, 57⟩)]), ⟨.function, [("self", .local), ("initial_value", .local), ("newline", .local), ("type", .globalImplicit), ("str", .globalImplicit), ("_wall", .globalImplicit), ("ValueError", .globalImplicit)], false, false, []⟩, 3, [], (.ref 463), .none, .none, (.str "io" 449), none, (.ref 469), .none, 0⟩), #[]⟩) :: (nat_lit 471, ⟨(.type "tuple"), none, (.seq #[] 0), #[]⟩) :: (nat_lit 473, ⟨(.type "tuple"), none, (.seq (List.toArray [(.str "self" 847), (.str "s" 848), (.str "newline" 849)]) 0), #[]⟩) :: (nat_lit 474, ⟨(.type "tuple"), none, (.seq #[] 0), #[]⟩) :: (nat_lit 476, ⟨(.type "code"), none, (.fields (List.toArray [(.str "__translated" 844), (.str "StringIO.__translated" 845), (.str "/claim/cut.py" 846), (.int 347 0), (.int 2 0), (.int 0 0), (.int 0 0), (.int 3 0), (.ref 471), (.bool true), (.int 273 0), (.ref 472), .none, (.ref 473), (.ref 474), (.ref 475), (.int 850 0), (.int 347 0), (.str "/claim/cut.py" 851)])), #[]⟩) :: (nat_lit 477, ⟨(.type "function"), none, (.func ⟨"__translated", "StringIO.__translated", (fA (nS 30 2)), (fB (nS 30 2)), (fS (nS 30 2)), 3, [], .none, .none, .none, (.str "io" 449), none, (.ref 476), .none, 0⟩), #[]⟩) :: (nat_lit 478, ⟨(.type "tuple"), none, (.seq #[] 0), #[]⟩) :: (nat_lit 480, ⟨(.type "tuple"), none, (.seq (List.toArray [(.str "self" 856)]) 0), #[]⟩) :: (nat_lit 481, ⟨(.type "tuple"), none, (.seq #[] 0), #[]⟩) :: (nat_lit 483, ⟨(.type "code"), none, (.fields (List.toArray [(.str "__check" 853), (.str "StringIO.__check" 854), (.str "/claim/cut.py" 855), (.int 355 0), (.int 1 0), (.int 0 0), (.int 0 0), (.int 3 0), (.ref 478), (.bool true), (.int 273 0), (.ref 479), .none, (.ref 480), (.ref 481), (.ref 482), (.int 857 0), (.int 355 0), (.str "/claim/cut.py" 858)])), #[]⟩) :: (nat_lit 484, ⟨(.type "function"), none, (.func ⟨"__check", "StringIO.__check", (fA (nS 30 3)), (fB (nS 30 3)), (fS (nS 30 3)), 3, [], .none, .none, .none, (.str "io" 449), none, (.ref 483), .none, 0⟩), #[]⟩) :: (nat_lit 485, ⟨(.type "tuple"), none, (.seq #[] 0), #[]⟩) :: (nat_lit 487, ⟨(.type "tuple"), none, (.seq (List.toArray [(.str "self" 863)]) 0), #[]⟩) :: (nat_lit 488, ⟨(.type "tuple"), none, (.seq #[] 0), #[]⟩) :: (nat_lit 490, ⟨(.type "code"), none, (.fields (List.toArray [(.str "__check_dot" 860), (.str "StringIO.__check_dot" 861), (.str "/claim/cut.py" 862), (.int 359 0), (.int 1 0), (.int 0 0), (.int 0 0), (.int 3 0), (.ref 485), (.bool true), (.int 273 0), (.ref 486), .none, (.ref 487), (.ref 488), (.ref 489), (.int 864 0), (.int 359 0), (.str "/claim/cut.py" 865)])), #[]⟩) :: (nat_lit 491, ⟨(.type "function"), none, (.func ⟨"__check_dot", "StringIO.__check_dot", (fA (nS 30 4)), (fB (nS 30 4)), (fS (nS 30 4)), 3, [], .none, .none, .none, (.str "io" 449), none, (.ref 490), .none, 0⟩), #[]⟩) :: (nat_lit 492, ⟨(.type "tuple"), none, (.seq #[] 0), #[]⟩) :: (nat_lit 494, ⟨(.type "tuple"), none, (.seq (List.toArray [(.str "self" 870), (.str "limit" 871), (.str "start" 872), (.str "stop" 873), (.str "cut" 874), (.str "newline" 875), (.str "i" 876), (.str "j" 877), (.str "end" 878)]) 0), #[]⟩) :: (nat_lit 495, ⟨(.type "tuple"), none, (.seq #[] 0), #[]⟩) :: (nat_lit 497, ⟨(.type "code"), none, (.fields (List.toArray [(.str "__line" 867), (.str "StringIO.__line" 868), (.str "/claim/cut.py" 869), (.int 363 0), (.int 2 0), (.int 0 0), (.int 0 0), (.int 3 0), (.ref 492), (.bool true), (.int 273 0), (.ref 493), .none, (.ref 494), (.ref 495), (.ref 496), (.int 879 0), (.int 363 0), (.str "/claim/cut.py" 880)])), #[]⟩) :: (nat_lit 498, ⟨(.type "function"), none, (.func ⟨"__line", "StringIO.__line", (fA (nS 30 5)), (fB (nS 30 5)), (fS (nS 30 5)), 3, [], .none, .none, .none, (.str "io" 449), none, (.ref 497), .none, 0⟩), #[]⟩) :: (nat_lit 499, ⟨(.type "tuple"), none, (.seq #[] 0), #[]⟩) :: (nat_lit 501, ⟨(.type "tuple"), none, (.seq (List.toArray [(.str "self" 885)]) 0), #[]⟩) :: (nat_lit 502, ⟨(.type "tuple"), none, (.seq #[] 0), #[]⟩) :: (nat_lit 504, ⟨(.type "code"), none, (.fields (List.toArray [(.str "closed" 882), (.str "StringIO.closed" 883), (.str "/claim/cut.py" 884), (.int 395 0), (.int 1 0), (.int 0 0), (.int 0 0), (.int 3 0), (.ref 499), (.bool true), (.int 273 0), (.ref 500), .none, (.ref 501), (.ref 502), (.ref 503), (.int 886 0), (.int 395 0), (.str "/claim/cut.py" 887)])), #[]⟩) :: (nat_lit 505, ⟨(.type "function"), none, (.func ⟨"closed", "StringIO.closed", (fA (nS 30 6)), (fB (nS 30 6)), (fS (nS 30 6)), 3, [], .none, .none, .none, (.str "io" 449), none, (.ref 504), .none, 0⟩), #[]⟩) :: (nat_lit 506, ⟨(.type "property"), none, (.fields (List.toArray [(.ref 505), .none, .none, .none, (.str "closed" 889), (.bool false)])), #[]⟩) :: (nat_lit 507, ⟨(.type "tuple"), none, (.seq #[] 0), #[]⟩) :: (nat_lit 509, ⟨(.type "tuple"), none, (.seq (List.toArray [(.str "self" 893)]) 0), #[]⟩) :: (nat_lit 510, ⟨(.type "tuple"), none, (.seq #[] 0), #[]⟩) :: (nat_lit 512, ⟨(.type "code"), none, (.fields (List.toArray [(.str "line_buffering" 890), (.str "StringIO.line_buffering" 891), (.str "/claim/cut.py" 892), (.int 399 0), (.int 1 0), (.int 0 0), (.int 0 0), (.int 3 0), (.ref 507), (.bool true), (.int 273 0), (.ref 508), .none, (.ref 509), (.ref 510), (.ref 511), (.int 894 0), (.int 399 0), (.str "/claim/cut.py" 895)])), #[]⟩) :: (nat_lit 513, ⟨(.type "function"), none, (.func ⟨"line_buffering", "StringIO.line_buffering", (fA (nS 30 7)), (fB (nS 30 7)), (fS (nS 30 7)), 3, [], .none, .none, .none, (.str "io" 449), none, (.ref 512), .none, 0⟩), #[]⟩) :: (nat_lit 514, ⟨(.type "property"), none, (.fields (List.toArray [(.ref 513), .none, .none, .none, (.str "line_buffering" 897), (.bool false)])), #[]⟩) :: (nat_lit 515, ⟨(.type "tuple"), none, (.seq #[] 0), #[]⟩) :: (nat_lit 517, ⟨(.type "tuple"), none, (.seq (List.toArray [(.str "self" 901)]) 0), #[]⟩) :: (nat_lit 518, ⟨(.type "tuple"), none, (.seq #[] 0), #[]⟩) :: (nat_lit 520, ⟨(.type "code"), none, (.fields (List.toArray [(.str "newlines" 898), (.str "StringIO.newlines" 899), (.str "/claim/cut.py" 900), (.int 403 0), (.int 1 0), (.int 0 0), (.int 0 0), (.int 3 0), (.ref 515), (.bool true), (.int 273 0), (.ref 516), .none, (.ref 517), (.ref 518), (.ref 519), (.int 902 0), (.int 403 0), (.str "/claim/cut.py" 903)])), #[]⟩) :: (nat_lit 521, ⟨(.type "function"), none, (.func ⟨"newlines", "StringIO.newlines", (fA (nS 30 8)), (fB (nS 30 8)), (fS (nS 30 8)), 3, [], .none, .none, .none, (.str "io" 449), none, (.ref 520), .none, 0⟩), #[]⟩) :: (nat_lit 522, ⟨(.type "property"), none, (.fields (List.toArray [(.ref 521), .none, .none, .none, (.str "newlines" 905), (.bool false)])), #[]⟩) :: (nat_lit 523, ⟨(.type "tuple"), none, (.seq #[] 0), #[]⟩) :: (nat_lit 525, ⟨(.type "tuple"), none, (.seq (List.toArray [(.str "self" 909)]) 0), #[]⟩) :: (nat_lit 526, ⟨(.type "tuple"), none, (.seq #[] 0), #[]⟩) :: (nat_lit 528, ⟨(.type "code"), none, (.fields (List.toArray [(.str "encoding" 906), (.str "StringIO.encoding" 907), (.str "/claim/cut.py" 908), (.int 407 0), (.int 1 0), (.int 0 0), (.int 0 0), (.int 3 0), (.ref 523), (.bool true), (.int 273 0), (.ref 524), .none, (.ref 525), (.ref 526), (.ref 527), (.int 910 0), (.int 407 0), (.str "/claim/cut.py" 911)])), #[]⟩) :: (nat_lit 529, ⟨(.type "function"), none, (.func ⟨"encoding", "StringIO.encoding", (fA (nS 30 9)), (fB (nS 30 9)), (fS (nS 30 9)), 3, [], .none, .none, .none, (.str "io" 449), none, (.ref 528), .none, 0⟩), #[]⟩) :: (nat_lit 530, ⟨(.type "property"), none, (.fields (List.toArray [(.ref 529), .none, .none, .none, (.str "encoding" 913), (.bool false)])), #[]⟩) :: (nat_lit 531, ⟨(.type "tuple"), none, (.seq #[] 0), #[]⟩) :: (nat_lit 533, ⟨(.type "tuple"), none, (.seq (List.toArray [(.str "self" 917)]) 0), #[]⟩) :: (nat_lit 534, ⟨(.type "tuple"), none, (.seq #[] 0), #[]⟩) :: (nat_lit 536, ⟨(.type "code"), none, (.fields (List.toArray [(.str "errors" 914), (.str "StringIO.errors" 915), (.str "/claim/cut.py" 916), (.int 411 0), (.int 1 0), (.int 0 0), (.int 0 0), (.int 3 0), (.ref 531), (.bool true), (.int 273 0), (.ref 532), .none, (.ref 533), (.ref 534), (.ref 535), (.int 918 0), (.int 411 0), (.str "/claim/cut.py" 919)])), #[]⟩) :: (nat_lit 537, ⟨(.type "function"), none, (.func ⟨"errors", "StringIO.errors", (fA (nS 30 10)), (fB (nS 30 10)), (fS (nS 30 10)), 3, [], .none, .none, .none, (.str "io" 449), none, (.ref 536), .none, 0⟩), #[]⟩) :: (nat_lit 538, ⟨(.type "property"), none, (.fields (List.toArray [(.ref 537), .none, .none, .none, (.str "errors" 921), (.bool false)])), #[]⟩) :: (nat_lit 539, ⟨(.type "tuple"), none, (.seq #[] 0), #[]⟩) :: (nat_lit 541, ⟨(.type "tuple"), none, (.seq (List.toArray [(.str "self" 925)]) 0), #[]⟩) :: (nat_lit 542, ⟨(.type "tuple"), none, (.seq #[] 0), #[]⟩) :: (nat_lit 544, ⟨(.type "code"), none, (.fields (List.toArray [(.str "close" 922), (.str "StringIO.close" 923), (.str "/claim/cut.py" 924), (.int 415 0), (.int 1 0), (.int 0 0), (.int 0 0), (.int 3 0), (.ref 539), (.bool true), (.int 273 0), (.ref 540), .none, (.ref 541), (.ref 542), (.ref 543), (.int 926 0), (.int 415 0), (.str "/claim/cut.py" 927)])), #[]⟩) :: (nat_lit 545, ⟨(.type "function"), none, (.func ⟨"close", "StringIO.close", (fA (nS 30 11)), (fB (nS 30 11)), (fS (nS 30 11)), 3, [], .none, .none, .none, (.str "io" 449), none, (.ref 544), .none, 0⟩), #[]⟩) :: (nat_lit 546, ⟨(.type "tuple"), none, (.seq #[] 0), #[]⟩) :: (nat_lit 548, ⟨(.type "tuple"), none, (.seq (List.toArray [(.str "self" 932)]) 0), #[]⟩) :: (nat_lit 549, ⟨(.type "tuple"), none, (.seq #[] 0), #[]⟩) :: (nat_lit 551, ⟨(.type "code"), none, (.fields (List.toArray [(.str "__enter__" 929), (.str "StringIO.__enter__" 930), (.str "/claim/cut.py" 931), (.int 418 0), (.int 1 0), (.int 0 0), (.int 0 0), (.int 3 0), (.ref 546), (.bool true), (.int 273 0), (.ref 547), .none, (.ref 548), (.ref 549), (.ref 550), (.int 933 0), (.int 418 0), (.str "/claim/cut.py" 934)])), #[]⟩) :: (nat_lit 552, ⟨(.type "function"), none, (.func ⟨"__enter__", "StringIO.__enter__", (fA (nS 30 12)), (fB (nS 30 12)), (fS (nS 30 12)), 3, [], .none, .none, .none, (.str "io" 449), none, (.ref 551), .none, 0⟩), #[]⟩) :: (nat_lit 553, ⟨(.type "tuple"), none, (.seq #[] 0), #[]⟩) :: (nat_lit 555, ⟨(.type "tuple"), none, (.seq (List.toArray [(.str "self" 939), (.str "args" 940)]) 0), #[]⟩) :: (nat_lit 556, ⟨(.type "tuple"), none, (.seq #[] 0), #[]⟩) :: (nat_lit 558, ⟨(.type "code"), none, (.fields (List.toArray [(.str "__exit__" 936), (.str "StringIO.__exit__" 937), (.str "/claim/cut.py" 938), (.int 422 0), (.int 1 0), (.int 0 0), (.int 0 0), (.int 7 0), (.ref 553), (.bool true), (.int 273 0), (.ref 554), .none, (.ref 555), (.ref 556), (.ref 557), (.int 941 0), (.int 422 0), (.str "/claim/cut.py" 942)])), #[]⟩) :: (nat_lit 559, ⟨(.type "function"), none, (.func ⟨"__exit__", "StringIO.__exit__", (fA (nS 30 13)), (fB (nS 30 13)), (fS (nS 30 13)), 3, [], .none, .none, .none, (.str "io" 449), none, (.ref 558), .none, 0⟩), #[]⟩) :: (nat_lit 560, ⟨(.type "tuple"), none, (.seq #[] 0), #[]⟩) :: (nat_lit 562, ⟨(.type "tuple"), none, (.seq (List.toArray [(.str "self" 947)]) 0), #[]⟩) :: (nat_lit 563, ⟨(.type "tuple"), none, (.seq #[] 0), #[]⟩) :: (nat_lit 565, ⟨(.type "code"), none, (.fields (List.toArray [(.str "readable" 944), (.str "StringIO.readable" 945), (.str "/claim/cut.py" 946), (.int 425 0), (.int 1 0), (.int 0 0), (.int 0 0), (.int 3 0), (.ref 560), (.bool true), (.int 273 0), (.ref 561), .none, (.ref 562), (.ref 563), (.ref 564), (.int 948 0), (.int 425 0), (.str "/claim/cut.py" 949)])), #[]⟩) :: (nat_lit 566, ⟨(.type "function"), none, (.func ⟨"readable", "StringIO.readable", (fA (nS 30 14)), (fB (nS 30 14)), (fS (nS 30 14)), 3, [], .none, .none, .none, (.str "io" 449), none, (.ref 565), .none, 0⟩), #[]⟩) :: (nat_lit 567, ⟨(.type "tuple"), none, (.seq #[] 0), #[]⟩) :: (nat_lit 569, ⟨(.type "tuple"), none, (.seq (List.toArray [(.str "self" 954)]) 0), #[]⟩) :: (nat_lit 570, ⟨(.type "tuple"), none, (.seq #[] 0), #[]⟩) :: (nat_lit 572, ⟨(.type "code"), none, (.fields (List.toArray [(.str "writable" 951), (.str "StringIO.writable" 952), (.str "/claim/cut.py" 953), (.int 429 0), (.int 1 0), (.int 0 0), (.int 0 0), (.int 3 0), (.ref 567), (.bool true), (.int 273 0), (.ref 568), .none, (.ref 569), (.ref 570), (.ref 571), (.int 955 0), (.int 429 0), (.str "/claim/cut.py" 956)])), #[]⟩) :: (nat_lit 573, ⟨(.type "function"), none, (.func ⟨"writable", "StringIO.writable", (fA (nS 30 15)), (fB (nS 30 15)), (fS (nS 30 15)), 3, [], .none, .none, .none, (.str "io" 449), none, (.ref 572), .none, 0⟩), #[]⟩) :: (nat_lit 574, ⟨(.type "tuple"), none, (.seq #[] 0), #[]⟩) :: (nat_lit 576, ⟨(.type "tuple"), none, (.seq (List.toArray [(.str "self" 961)]) 0), #[]⟩) :: (nat_lit 577, ⟨(.type "tuple"), none, (.seq #[] 0), #[]⟩) :: (nat_lit 579, ⟨(.type "code"), none, (.fields (List.toArray [(.str "seekable" 958), (.str "StringIO.seekable" 959), (.str "/claim/cut.py" 960), (.int 433 0), (.int 1 0), (.int 0 0), (.int 0 0), (.int 3 0), (.ref 574), (.bool true), (.int 273 0), (.ref 575), .none, (.ref 576), (.ref 577), (.ref 578), (.int 962 0), (.int 433 0), (.str "/claim/cut.py" 963)])), #[]⟩) :: (nat_lit 580, ⟨(.type "function"), none, (.func ⟨"seekable", "StringIO.seekable", (fA (nS 30 16)), (fB (nS 30 16)), (fS (nS 30 16)), 3, [], .none, .none, .none, (.str "io" 449), none, (.ref 579), .none, 0⟩), #[]⟩) :: (nat_lit 581, ⟨(.type "tuple"), none, (.seq #[] 0), #[]⟩) :: (nat_lit 583, ⟨(.type "tuple"), none, (.seq (List.toArray [(.str "self" 968)]) 0), #[]⟩) :: (nat_lit 584, ⟨(.type "tuple"), none, (.seq #[] 0), #[]⟩) :: (nat_lit 586, ⟨(.type "code"), none, (.fields (List.toArray [(.str "isatty" 965), (.str "StringIO.isatty" 966), (.str "/claim/cut.py" 967), (.int 437 0), (.int 1 0), (.int 0 0), (.int 0 0), (.int 3 0), (.ref 581), (.bool true), (.int 273 0), (.ref 582), .none, (.ref 583), (.ref 584), (.ref 585), (.int 969 0), (.int 437 0), (.str "/claim/cut.py" 970)])), #[]⟩) :: (nat_lit 587, ⟨(.type "function"), none, (.func ⟨"isatty", "StringIO.isatty", (fA (nS 30 17)), (fB (nS 30 17)), (fS (nS 30 17)), 3, [], .none, .none, .none, (.str "io" 449), none, (.ref 586), .none, 0⟩), #[]⟩) :: (nat_lit 588, ⟨(.type "tuple"), none, (.seq #[] 0), #[]⟩) :: (nat_lit 590, ⟨(.type "tuple"), none, (.seq (List.toArray [(.str "self" 975)]) 0), #[]⟩) :: (nat_lit 591, ⟨(.type "tuple"), none, (.seq #[] 0), #[]⟩) :: (nat_lit 593, ⟨(.type "code"), none, (.fields (List.toArray [(.str "flush" 972), (.str "StringIO.flush" 973), (.str "/claim/cut.py" 974), (.int 441 0), (.int 1 0), (.int 0 0), (.int 0 0), (.int 3 0), (.ref 588), (.bool true), (.int 273 0), (.ref 589), .none, (.ref 590), (.ref 591), (.ref 592), (.int 976 0), (.int 441 0), (.str "/claim/cut.py" 977)])), #[]⟩) :: (nat_lit 594, ⟨(.type "function"), none, (.func ⟨"flush", "StringIO.flush", (fA (nS 30 18)), (fB (nS 30 18)), (fS (nS 30 18)), 3, [], .none, .none, .none, (.str "io" 449), none, (.ref 593), .none, 0⟩), #[]⟩) :: (nat_lit 595, ⟨(.type "tuple"), none, (.seq #[] 0), #[]⟩) :: (nat_lit 597, ⟨(.type "tuple"), none, (.seq (List.toArray [(.str "self" 982)]) 0), #[]⟩) :: (nat_lit 598, ⟨(.type "tuple"), none, (.seq #[] 0), #[]⟩) :: (nat_lit 600, ⟨(.type "code"), none, (.fields (List.toArray [(.str "fileno" 979), (.str "StringIO.fileno" 980), (.str "/claim/cut.py" 981), (.int 444 0), (.int 1 0), (.int 0 0), (.int 0 0), (.int 3 0), (.ref 595), (.bool true), (.int 273 0), (.ref 596), .none, (.ref 597), (.ref 598), (.ref 599), (.int 983 0), (.int 444 0), (.str "/claim/cut.py" 984)])), #[]⟩) :: (nat_lit 601, ⟨(.type "function"), none, (.func ⟨"fileno", "StringIO.fileno", (fA (nS 30 19)), (fB (nS 30 19)), (fS (nS 30 19)), 3, [], .none, .none, .none, (.str "io" 449), none, (.ref 600), .none, 0⟩), #[]⟩) :: (nat_lit 602, ⟨(.type "tuple"), none, (.seq #[] 0), #[]⟩) :: (nat_lit 604, ⟨(.type "tuple"), none, (.seq (List.toArray [(.str "self" 989)]) 0), #[]⟩) :: (nat_lit 605, ⟨(.type "tuple"), none, (.seq #[] 0), #[]⟩) :: (nat_lit 607, ⟨(.type "code"), none, (.fields (List.toArray [(.str "detach" 986), (.str "StringIO.detach" 987), (.str "/claim/cut.py" 988), (.int 447 0), (.int 1 0), (.int 0 0), (.int 0 0), (.int 3 0), (.ref 602), (.bool true), (.int 273 0), (.ref 603), .none, (.ref 604), (.ref 605), (.ref 606), (.int 990 0), (.int 447 0), (.str "/claim/cut.py" 991)])), #[]⟩) :: (nat_lit 608, ⟨(.type "function"), none, (.func ⟨"detach", "StringIO.detach", (fA (nS 30 20)), (fB (nS 30 20)), (fS (nS 30 20)), 3, [], .none, .none, .none, (.str "io" 449), none, (.ref 607), .none, 0⟩), #[]⟩) :: (nat_lit 609, ⟨(.type "tuple"), none, (.seq #[] 0), #[]⟩) :: (nat_lit 611, ⟨(.type "tuple"), none, (.seq (List.toArray [(.str "self" 996)]) 0), #[]⟩) :: (nat_lit 612, ⟨(.type "tuple"), none, (.seq #[] 0), #[]⟩) :: (nat_lit 614, ⟨(.type "code"), none, (.fields (List.toArray [(.str "getvalue" 993), (.str "StringIO.getvalue" 994), (.str "/claim/cut.py" 995), (.int 450 0), (.int 1 0), (.int 0 0), (.int 0 0), (.int 3 0), (.ref 609), (.bool true), (.int 273 0), (.ref 610), .none, (.ref 611), (.ref 612), (.ref 613), (.int 997 0), (.int 450 0), (.str "/claim/cut.py" 998)])), #[]⟩) :: (nat_lit 615, ⟨(.type "function"), none, (.func ⟨"getvalue", "StringIO.getvalue", (fA (nS 30 21)), (fB (nS 30 21)), (fS (nS 30 21)), 3, [], .none, .none, .none, (.str "io" 449), none, (.ref 614), .none, 0⟩), #[]⟩) :: (nat_lit 616, ⟨(.type "tuple"), none, (.seq #[] 0), #[]⟩) :: (nat_lit 618, ⟨(.type "tuple"), none, (.seq (List.toArray [(.str "self" 1003)]) 0), #[]⟩) :: (nat_lit 619, ⟨(.type "tuple"), none, (.seq #[] 0), #[]⟩) :: (nat_lit 621, ⟨(.type "code"), none, (.fields (List.toArray [(.str "tell" 1000), (.str "StringIO.tell" 1001), (.str "/claim/cut.py" 1002), (.int 453 0), (.int 1 0), (.int 0 0), (.int 0 0), (.int 3 0), (.ref 616), (.bool true), (.int 273 0), (.ref 617), .none, (.ref 618), (.ref 619), (.ref 620), (.int 1004 0), (.int 453 0), (.str "/claim/cut.py" 1005)])), #[]⟩) :: (nat_lit 622, ⟨(.type "function"), none, (.func ⟨"tell", "StringIO.tell", (fA (nS 30 22)), (fB (nS 30 22)), (fS (nS 30 22)), 3, [], .none, .none, .none, (.str "io" 449), none, (.ref 621), .none, 0⟩), #[]⟩) :: (nat_lit 623, ⟨(.type "tuple"), none, (.seq (List.toArray [(.int 0 1007)]) 0), #[]⟩) :: (nat_lit 624, ⟨(.type "tuple"), none, (.seq #[] 0), #[]⟩) :: (nat_lit 626, ⟨(.type "tuple"), none, (.seq (List.toArray [(.str "self" 1011), (.str "pos" 1012), (.str "whence" 1013)]) 0), #[]⟩) :: (nat_lit 627, ⟨(.type "tuple"), none, (.seq #[] 0), #[]⟩) :: (nat_lit 629, ⟨(.type "code"), none, (.fields (List.toArray [(.str "seek" 1008), (.str "StringIO.seek" 1009), (.str "/claim/cut.py" 1010), (.int 457 0), (.int 3 0), (.int 3 0), (.int 0 0), (.int 3 0), (.ref 624), (.bool true), (.int 273 0), (.ref 625), .none, (.ref 626), (.ref 627), (.ref 628), (.int 1014 0), (.int 457 0), (.str "/claim/cut.py" 1015)])), #[]⟩) :: (nat_lit 630, ⟨(.type "function"), none, (.func ⟨"seek", "StringIO.seek", (fA (nS 30 23)), (fB (nS 30 23)), (fS (nS 30 23)), 3, [], (.ref 623), .none, .none, (.str "io" 449), none, (.ref 629), .none, 0⟩), #[]⟩) :: (nat_lit 631, ⟨(.type "tuple"), none, (.seq (List.toArray [.none]) 0), #[]⟩) :: (nat_lit 632, ⟨(.type "tuple"), none, (.seq #[] 0), #[]⟩) :: (nat_lit 634, ⟨(.type "tuple"), none, (.seq (List.toArray [(.str "self" 1020), (.str "pos" 1021)]) 0), #[]⟩) :: (nat_lit 635, ⟨(.type "tuple"), none, (.seq #[] 0), #[]⟩) :: (nat_lit 637, ⟨(.type "code"), none, (.fields (List.toArray [(.str "truncate" 1017), (.str "StringIO.truncate" 1018), (.str "/claim/cut.py" 1019), (.int 474 0), (.int 2 0), (.int 2 0), (.int 0 0), (.int 3 0), (.ref 632), (.bool true), (.int 273 0), (.ref 633), .none, (.ref 634), (.ref 635), (.ref 636), (.int 1022 0), (.int 474 0), (.str "/claim/cut.py" 1023)])), #[]⟩) :: (nat_lit 638, ⟨(.type "function"), none, (.func ⟨"truncate", "StringIO.truncate", (fA (nS 30 24)), (fB (nS 30 24)), (fS (nS 30 24)), 3, [], (.ref 631), .none, .none, (.str "io" 449), none, (.ref 637), .none, 0⟩), #[]⟩) :: (nat_lit 639, ⟨(.type "tuple"), none, (.seq (List.toArray [(.int (-1) 1026)]) 0), #[]⟩) :: (nat_lit 640, ⟨(.type "tuple"), none, (.seq #[] 0), #[]⟩) :: (nat_lit 642, ⟨(.type "tuple"), none, (.seq (List.toArray [(.str "self" 1030), (.str "size" 1031), (.str "start" 1032), (.str "stop" 1033)]) 0), #[]⟩) :: (nat_lit 643, ⟨(.type "tuple"), none, (.seq #[] 0), #[]⟩) :: (nat_lit 645, ⟨(.type "code"), none, (.fields (List.toArray [(.str "read" 1027), (.str "StringIO.read" 1028), (.str "/claim/cut.py" 1029), (.int 477 0), (.int 2 0), (.int 2 0), (.int 0 0), (.int 3 0), (.ref 640), (.bool true), (.int 273 0), (.ref 641), .none, (.ref 642), (.ref 643), (.ref 644), (.int 1034 0), (.int 477 0), (.str "/claim/cut.py" 1035)])), #[]⟩) :: (nat_lit 646, ⟨(.type "function"), none, (.func ⟨"read", "StringIO.read", ⟨[⟨"self", none, ⟨477, 13, 477, 17⟩⟩, ⟨"size", none, ⟨477, 19, 477, 23⟩⟩], [], none, [], [], none, [(.UnaryOp .USub (.Constant (.int 1) 0 ⟨477, 25, 477, 26⟩) ⟨477, 24, 477, 26⟩)]⟩, (.stmts [(.If (.Compare (.Name "size" ⟨478, 11, 478, 15⟩) [.Is] [(.Constant .none 0 ⟨478, 19, 478, 23⟩)] ⟨478, 11, 478, 23⟩) [(.Assign [(.Name "size" ⟨479, 12, 479, 16⟩)] (.UnaryOp .USub (.Constant (.int 1) 0 ⟨479, 20, 479, 21⟩) ⟨479, 19, 479, 21⟩) ⟨479, 12, 479, 21⟩)] [] ⟨478, 8, 479, 21⟩), (.Assign [(.Name "size" ⟨480, 8, 480, 12⟩)] (.Call (.Name "_index" ⟨480, 15, 480, 21⟩) [(.Name "size" ⟨480, 22, 480, 26⟩), (.Constant (.str "StringIO.read of a size that is no exact int") 0 ⟨480, 28, 480, 74⟩)] [] ⟨480, 15, 480, 75⟩) ⟨480, 8, 480, 75⟩), (.Expr (.Call (.Attribute (.Name "self" ⟨481, 8, 481, 12⟩) "_StringIO__check" ⟨481, 8, 481, 20⟩) [] [] ⟨481, 8, 481, 22⟩) ⟨481, 8, 481, 22⟩), (.Assign [(.Name "start" ⟨482, 8, 482, 13⟩)] (.Attribute (.Name "self" ⟨482, 16, 482, 20⟩) "_StringIO__pos" ⟨482, 16, 482, 26⟩) ⟨482, 8, 482, 26⟩), (.Assign [(.Name "stop" ⟨483, 8, 483, 12⟩)] (.Call (.Name "len" ⟨483, 15, 483, 18⟩) [(.Attribute (.Name "self" ⟨483, 19, 483, 23⟩) "_StringIO__buf" ⟨483, 19, 483, 29⟩)] [] ⟨483, 15, 483, 30⟩) ⟨483, 8, 483, 30⟩), (.If (.Compare (.Name "start" ⟨484, 11, 484, 16⟩) [.GtE] [(.Name "stop" ⟨484, 20, 484, 24⟩)] ⟨484, 11, 484, 24⟩) [(.Return (some (.Constant (.str "") 0 ⟨485, 19, 485, 21⟩)) ⟨485, 12, 485, 21⟩)] [] ⟨484, 8, 485, 21⟩), (.If (.BoolOp .And [(.Compare (.Name "size" ⟨486, 11, 486, 15⟩) [.GtE] [(.Constant (.int 0) 0 ⟨486, 19, 486, 20⟩)] ⟨486, 11, 486, 20⟩), (.Compare (.BinOp (.Name "start" ⟨486, 25, 486, 30⟩) .Add (.Name "size" ⟨486, 33, 486, 37⟩) ⟨486, 25, 486, 37⟩) [.Lt] [(.Name "stop" ⟨486, 40, 486, 44⟩)] ⟨486, 25, 486, 44⟩)] ⟨486, 11, 486, 44⟩) [(.Assign [(.Name "stop" ⟨487, 12, 487, 16⟩)] (.BinOp (.Name "start" ⟨487, 19, 487, 24⟩) .Add (.Name "size" ⟨487, 27, 487, 31⟩) ⟨487, 19, 487, 31⟩) ⟨487, 12, 487, 31⟩)] [] ⟨486, 8, 487, 31⟩), (.Assign [(.Attribute (.Name "self" ⟨488, 8, 488, 12⟩) "_StringIO__pos" ⟨488, 8, 488, 18⟩)] (.Name "stop" ⟨488, 21, 488, 25⟩) ⟨488, 8, 488, 25⟩), (.Return (some (.Subscript (.BinOp (.Subscript (.Attribute (.Name "self" ⟨489, 16, 489, 20⟩) "_StringIO__buf" ⟨489, 16, 489, 26⟩) (.Slice (some (.Name "start" ⟨489, 27, 489, 32⟩)) (some (.Name "stop" ⟨489, 33, 489, 37⟩)) none ⟨489, 27, 489, 37⟩) ⟨489, 16, 489, 38⟩) .Add (.Constant (.str " ") 0 ⟨489, 41, 489, 44⟩) ⟨489, 16, 489, 44⟩) (.Slice none (some (.UnaryOp .USub (.Constant (.int 1) 0 ⟨489, 48, 489, 49⟩) ⟨489, 47, 489, 49⟩)) none ⟨489, 46, 489, 49⟩) ⟨489, 15, 489, 50⟩)) ⟨489, 8, 489, 50⟩)]), ⟨.function, [("self", .local), ("size", .local), ("start", .local), ("stop", .local), ("_index", .globalImplicit), ("len", .globalImplicit)], false, false, []⟩, 3, [], (.ref 639), .none, .none, (.str "io" 449), none, (.ref 645), .none, 0⟩), #[]⟩) :: (nat_lit 647, ⟨(.type "tuple"), none, (.seq (List.toArray [(.int (-1) 1038)]) 0), #[]⟩) :: (nat_lit 648, ⟨(.type "tuple"), none, (.seq #[] 0), #[]⟩) :: (nat_lit 650, ⟨(.type "tuple"), none, (.seq (List.toArray [(.str "self" 1042), (.str "size" 1043)]) 0), #[]⟩) :: (nat_lit 651, ⟨(.type "tuple"), none, (.seq #[] 0), #[]⟩) :: (nat_lit 653, ⟨(.type "code"), none, (.fields (List.toArray [(.str "readline" 1039), (.str "StringIO.readline" 1040), (.str "/claim/cut.py" 1041), (.int 491 0), (.int 2 0), (.int 2 0), (.int 0 0), (.int 3 0), (.ref 648), (.bool true), (.int 273 0), (.ref 649), .none, (.ref 650), (.ref 651), (.ref 652), (.int 1044 0), (.int 491 0), (.str "/claim/cut.py" 1045)])), #[]⟩) :: (nat_lit 654, ⟨(.type "function"), none, (.func ⟨"readline", "StringIO.readline", (fA (nS 30 26)), (fB (nS 30 26)), (fS (nS 30 26)), 3, [], (.ref 647), .none, .none, (.str "io" 449), none, (.ref 653), .none, 0⟩), #[]⟩) :: (nat_lit 655, ⟨(.type "tuple"), none, (.seq (List.toArray [(.int (-1) 1048)]) 0), #[]⟩) :: (nat_lit 656, ⟨(.type "tuple"), none, (.seq #[] 0), #[]⟩) :: (nat_lit 658, ⟨(.type "tuple"), none, (.seq (List.toArray [(.str "self" 1052), (.str "hint" 1053)]) 0), #[]⟩) :: (nat_lit 659, ⟨(.type "tuple"), none, (.seq #[] 0), #[]⟩) :: (nat_lit 661, ⟨(.type "code"), none, (.fields (List.toArray [(.str "readlines" 1049), (.str "StringIO.readlines" 1050), (.str "/claim/cut.py" 1051), (.int 498 0), (.int 2 0), (.int 2 0), (.int 0 0), (.int 3 0), (.ref 656), (.bool true), (.int 273 0), (.ref 657), .none, (.ref 658), (.ref 659), (.ref 660), (.int 1054 0), (.int 498 0), (.str "/claim/cut.py" 1055)])), #[]⟩) :: (nat_lit 662, ⟨(.type "function"), none, (.func ⟨"readlines", "StringIO.readlines", (fA (nS 30 27)), (fB (nS 30 27)), (fS (nS 30 27)), 3, [], (.ref 655), .none, .none, (.str "io" 449), none, (.ref 661), .none, 0⟩), #[]⟩) :: (nat_lit 663, ⟨(.type "tuple"), none, (.seq #[] 0), #[]⟩) :: (nat_lit 665, ⟨(.type "tuple"), none, (.seq (List.toArray [(.str "self" 1060)]) 0), #[]⟩) :: (nat_lit 666, ⟨(.type "tuple"), none, (.seq #[] 0), #[]⟩) :: (nat_lit 668, ⟨(.type "code"), none, (.fields (List.toArray [(.str "__iter__" 1057), (.str "StringIO.__iter__" 1058), (.str "/claim/cut.py" 1059), (.int 501 0), (.int 1 0), (.int 0 0), (.int 0 0), (.int 3 0), (.ref 663), (.bool true), (.int 273 0), (.ref 664), .none, (.ref 665), (.ref 666), (.ref 667), (.int 1061 0), (.int 501 0), (.str "/claim/cut.py" 1062)])), #[]⟩) :: (nat_lit 669, ⟨(.type "function"), none, (.func ⟨"__iter__", "StringIO.__iter__", (fA (nS 30 28)), (fB (nS 30 28)), (fS (nS 30 28)), 3, [], .none, .none, .none, (.str "io" 449), none, (.ref 668), .none, 0⟩), #[]⟩) :: (nat_lit 670, ⟨(.type "tuple"), none, (.seq #[] 0), #[]⟩) :: (nat_lit 672, ⟨(.type "tuple"), none, (.seq (List.toArray [(.str "self" 1067), (.str "line" 1068)]) 0), #[]⟩) :: (nat_lit 673, ⟨(.type "tuple"), none, (.seq #[] 0), #[]⟩) :: (nat_lit 675, ⟨(.type "code"), none, (.fields (List.toArray [(.str "__next__" 1064), (.str "StringIO.__next__" 1065), (.str "/claim/cut.py" 1066), (.int 505 0), (.int 1 0), (.int 0 0), (.int 0 0), (.int 3 0), (.ref 670), (.bool true), (.int 273 0), (.ref 671), .none, (.ref 672), (.ref 673), (.ref 674), (.int 1069 0), (.int 505 0), (.str "/claim/cut.py" 1070)])), #[]⟩) :: (nat_lit 676, ⟨(.type "function"), none, (.func ⟨"__next__", "StringIO.__next__", (fA (nS 30 29)), (fB (nS 30 29)), (fS (nS 30 29)), 3, [], .none, .none, .none, (.str "io" 449), none, (.ref 675), .none, 0⟩), #[]⟩) :: (nat_lit 677, ⟨(.type "tuple"), none, (.seq #[] 0), #[]⟩) :: (nat_lit 679, ⟨(.type "tuple"), none, (.seq (List.toArray [(.str "self" 1075), (.str "s" 1076), (.str "n" 1077), (.str "m" 1078), (.str "start" 1079), (.str "buf" 1080)]) 0), #[]⟩) :: (nat_lit 680, ⟨(.type "tuple"), none, (.seq #[] 0), #[]⟩) :: (nat_lit 682, ⟨(.type "code"), none, (.fields (List.toArray [(.str "write" 1072), (.str "StringIO.write" 1073), (.str "/claim/cut.py" 1074), (.int 512 0), (.int 2 0), (.int 2 0), (.int 0 0), (.int 3 0), (.ref 677), (.bool true), (.int 273 0), (.ref 678), .none, (.ref 679), (.ref 680), (.ref 681), (.int 1081 0), (.int 512 0), (.str "/claim/cut.py" 1082)])), #[]⟩) :: (nat_lit 683, ⟨(.type "function"), none, (.func ⟨"write", "StringIO.write", (fA (nS 30 30)), (fB (nS 30 30)), (fS (nS 30 30)), 3, [], .none, .none, .none, (.str "io" 449), none, (.ref 682), .none, 0⟩), #[]⟩) :: (nat_lit 684, ⟨(.type "tuple"), none, (.seq #[] 0), #[]⟩) :: (nat_lit 686, ⟨(.type "tuple"), none, (.seq (List.toArray [(.str "self" 1087), (.str "lines" 1088)]) 0), #[]⟩) :: (nat_lit 687, ⟨(.type "tuple"), none, (.seq #[] 0), #[]⟩) :: (nat_lit 689, ⟨(.type "code"), none, (.fields (List.toArray [(.str "writelines" 1084), (.str "StringIO.writelines" 1085), (.str "/claim/cut.py" 1086), (.int 531 0), (.int 2 0), (.int 2 0), (.int 0 0), (.int 3 0), (.ref 684), (.bool true), (.int 273 0), (.ref 685), .none, (.ref 686), (.ref 687), (.ref 688), (.int 1089 0), (.int 531 0), (.str "/claim/cut.py" 1090)])), #[]⟩) :: (nat_lit 690, ⟨(.type "function"), none, (.func ⟨"writelines", "StringIO.writelines", (fA (nS 30 31)), (fB (nS 30 31)), (fS (nS 30 31)), 3, [], .none, .none, .none, (.str "io" 449), none, (.ref 689), .none, 0⟩), #[]⟩) :: (nat_lit 691, ⟨(.type "tuple"), none, (.seq #[] 0), #[]⟩) :: (nat_lit 693, ⟨(.type "tuple"), none, (.seq (List.toArray [(.str "self" 1095)]) 0), #[]⟩) :: (nat_lit 694, ⟨(.type "tuple"), none, (.seq #[] 0), #[]⟩) :: (nat_lit 696, ⟨(.type "code"), none, (.fields (List.toArray [(.str "__repr__" 1092), (.str "StringIO.__repr__" 1093), (.str "/claim/cut.py" 1094), (.int 534 0), (.int 1 0), (.int 0 0), (.int 0 0), (.int 3 0), (.ref 691), (.bool true), (.int 273 0), (.ref 692), .none, (.ref 693), (.ref 694), (.ref 695), (.int 1096 0), (.int 534 0), (.str "/claim/cut.py" 1097)])), #[]⟩) :: (nat_lit 697, ⟨(.type "function"), none, (.func ⟨"__repr__", "StringIO.__repr__", (fA (nS 30 32)), (fB (nS 30 32)), (fS (nS 30 32)), 3, [], .none, .none, .none, (.str "io" 449), none, (.ref 696), .none, 0⟩), #[]⟩) :: (nat_lit 698, ⟨(.type "tuple"), none, (.seq (List.toArray [(.str "__buf" 1099), (.str "__newline" 1100), (.str "__pos" 1101)]) 0), #[]⟩) :: (nat_lit 699, ⟨(.type "dict"), none, (.dict (List.toArray [⟨(keyHash P "__module__"), (.str "__module__" 826), (.str "_io" 831)⟩, ⟨(keyHash P "__firstlineno__"), (.str "__firstlineno__" 830), (.int 331 829)⟩, ⟨(keyHash P "__init__"), (.str "__init__" 843), (.ref 470)⟩, ⟨(keyHash P "_StringIO__translated"), (.str "_StringIO__translated" 852), (.ref 477)⟩, ⟨(keyHash P "_StringIO__check"), (.str "_StringIO__check" 859), (.ref 484)⟩, ⟨(keyHash P "_StringIO__check_dot"), (.str "_StringIO__check_dot" 866), (.ref 491)⟩, ⟨(keyHash P "_StringIO__line"), (.str "_StringIO__line" 881), (.ref 498)⟩, ⟨(keyHash P "closed"), (.str "closed" 889), (.ref 506)⟩, ⟨(keyHash P "line_buffering"), (.str "line_buffering" 897), (.ref 514)⟩, ⟨(keyHash P "newlines"), (.str "newlines" 905), (.ref 522)⟩, ⟨(keyHash P "encoding"), (.str "encoding" 913), (.ref 530)⟩, ⟨(keyHash P "errors"), (.str "errors" 921), (.ref 538)⟩, ⟨(keyHash P "close"), (.str "close" 928), (.ref 545)⟩, ⟨(keyHash P "__enter__"), (.str "__enter__" 935), (.ref 552)⟩, ⟨(keyHash P "__exit__"), (.str "__exit__" 943), (.ref 559)⟩, ⟨(keyHash P "readable"), (.str "readable" 950), (.ref 566)⟩, ⟨(keyHash P "writable"), (.str "writable" 957), (.ref 573)⟩, ⟨(keyHash P "seekable"), (.str "seekable" 964), (.ref 580)⟩, ⟨(keyHash P "isatty"), (.str "isatty" 971), (.ref 587)⟩, ⟨(keyHash P "flush"), (.str "flush" 978), (.ref 594)⟩, ⟨(keyHash P "fileno"), (.str "fileno" 985), (.ref 601)⟩, ⟨(keyHash P "detach"), (.str "detach" 992), (.ref 608)⟩, ⟨(keyHash P "getvalue"), (.str "getvalue" 999), (.ref 615)⟩, ⟨(keyHash P "tell"), (.str "tell" 1006), (.ref 622)⟩, ⟨(keyHash P "seek"), (.str "seek" 1016), (.ref 630)⟩, ⟨(keyHash P "truncate"), (.str "truncate" 1024), (.ref 638)⟩, ⟨(keyHash P "read"), (.str "read" 1036), (.ref 646)⟩, ⟨(keyHash P "readline"), (.str "readline" 1046), (.ref 654)⟩, ⟨(keyHash P "readlines"), (.str "readlines" 1056), (.ref 662)⟩, ⟨(keyHash P "__iter__"), (.str "__iter__" 1063), (.ref 669)⟩, ⟨(keyHash P "__next__"), (.str "__next__" 1071), (.ref 676)⟩, ⟨(keyHash P "write"), (.str "write" 1083), (.ref 683)⟩, ⟨(keyHash P "writelines"), (.str "writelines" 1091), (.ref 690)⟩, ⟨(keyHash P "__repr__"), (.str "__repr__" 1098), (.ref 697)⟩, ⟨(keyHash P "__static_attributes__"), (.str "__static_attributes__" 1102), (.ref 698)⟩, ⟨(keyHash P "__doc__"), (.str "__doc__" 1103), .none⟩]) 2), #[]⟩) :: (nat_lit 700, ⟨(.type "type"), none, (.cls ⟨"StringIO", [(.ref 223)], [(.ref 700), (.ref 223), (.ref 196), (.type "object")], 699, "StringIO", true, [], [], false, none, false⟩), (List.toArray [(some (.ref 456)), none, (some (.str "StringIO" 819)), (some (.str "StringIO" 827)), (some .none), (some (.bool true))])⟩) :: (nat_lit 703, ⟨(.type "tuple"), none, (.seq #[] 0), #[]⟩) :: (nat_lit 705, ⟨(.type "tuple"), none, (.seq (List.toArray [(.str "name" 1111), (.str "x" 1112), (.str "t" 1113)]) 0), #[]⟩) :: (nat_lit 706, ⟨(.type "tuple"), none, (.seq #[] 0), #[]⟩) :: (nat_lit 708, ⟨(.type "code"), none, (.fields (List.toArray [(.str "_kind" 1108), (.str "_kind" 1109), (.str "/claim/cut.py" 1110), (.int 537 0), (.int 2 0), (.int 0 0), (.int 0 0), (.int 3 0), (.ref 703), (.bool true), (.int 273 0), (.ref 704), .none, (.ref 705), (.ref 706), (.ref 707), (.int 1114 0), (.int 537 0), (.str "/claim/cut.py" 1115)])), #[]⟩) :: (nat_lit 709, ⟨(.type "function"), none, (.func ⟨"_kind", "_kind", (fA (mS 32)), (fB (mS 32)), (fS (mS 32)), 3, [], .none, .none, .none, (.str "os.path" 1106), none, (.ref 708), .none, 0⟩), #[]⟩) :: (nat_lit 710, ⟨(.type "tuple"), none, (.seq #[] 0), #[]⟩) :: (nat_lit 712, ⟨(.type "tuple"), none, (.seq (List.toArray [(.str "name" 1120), (.str "x" 1121), (.str "k" 1122)]) 0), #[]⟩) :: (nat_lit 713, ⟨(.type "tuple"), none, (.seq #[] 0), #[]⟩) :: (nat_lit 715, ⟨(.type "code"), none, (.fields (List.toArray [(.str "_fspath" 1117), (.str "_fspath" 1118), (.str "/claim/cut.py" 1119), (.int 558 0), (.int 2 0), (.int 0 0), (.int 0 0), (.int 3 0), (.ref 710), (.bool true), (.int 273 0), (.ref 711), .none, (.ref 712), (.ref 713), (.ref 714), (.int 1123 0), (.int 558 0), (.str "/claim/cut.py" 1124)])), #[]⟩) :: (nat_lit 716, ⟨(.type "function"), none, (.func ⟨"_fspath", "_fspath", (fA (mS 33)), (fB (mS 33)), (fS (mS 33)), 3, [], .none, .none, .none, (.str "os.path" 1106), none, (.ref 715), .none, 0⟩), #[]⟩) :: (nat_lit 717, ⟨(.type "tuple"), none, (.seq #[] 0), #[]⟩) :: (nat_lit 719, ⟨(.type "tuple"), none, (.seq (List.toArray [(.str "funcname" 1129), (.str "args" 1130), (.str "s" 1131), (.str "k" 1132)]) 0), #[]⟩) :: (nat_lit 720, ⟨(.type "tuple"), none, (.seq #[] 0), #[]⟩) :: (nat_lit 722, ⟨(.type "code"), none, (.fields (List.toArray [(.str "_check_arg_types" 1126), (.str "_check_arg_types" 1127), (.str "/claim/cut.py" 1128), (.int 563 0), (.int 1 0), (.int 0 0), (.int 0 0), (.int 7 0), (.ref 717), (.bool true), (.int 273 0), (.ref 718), .none, (.ref 719), (.ref 720), (.ref 721), (.int 1133 0), (.int 563 0), (.str "/claim/cut.py" 1134)])), #[]⟩) :: (nat_lit 723, ⟨(.type "function"), none, (.func ⟨"_check_arg_types", "_check_arg_types", (fA (mS 34)), (fB (mS 34)), (fS (mS 34)), 3, [], .none, .none, .none, (.str "os.path" 1106), none, (.ref 722), .none, 0⟩), #[]⟩) :: (nat_lit 724, ⟨(.type "tuple"), none, (.seq #[] 0), #[]⟩) :: (nat_lit 726, ⟨(.type "tuple"), none, (.seq (List.toArray [(.str "s" 1140)]) 0), #[]⟩) :: (nat_lit 727, ⟨(.type "tuple"), none, (.seq #[] 0), #[]⟩) :: (nat_lit 729, ⟨(.type "code"), none, (.fields (List.toArray [(.str "isabs" 1137), (.str "isabs" 1138), (.str "/claim/cut.py" 1139), (.int 569 0), (.int 1 0), (.int 0 0), (.int 0 0), (.int 3 0), (.ref 724), (.bool true), (.int 273 0), (.ref 725), .none, (.ref 726), (.ref 727), (.ref 728), (.int 1141 0), (.int 569 0), (.str "/claim/cut.py" 1142)])), #[]⟩) :: (nat_lit 730, ⟨(.type "function"), none, (.func ⟨"isabs", "isabs", (fA (mS 36)), (fB (mS 36)), (fS (mS 36)), 3, [], .none, .none, .none, (.str "os.path" 1106), none, (.ref 729), .none, 0⟩), #[]⟩) :: (nat_lit 731, ⟨(.type "tuple"), none, (.seq #[] 0), #[]⟩) :: (nat_lit 733, ⟨(.type "tuple"), none, (.seq (List.toArray [(.str "a" 1147), (.str "p" 1148), (.str "b" 1149), (.str "sep" 1150), (.str "path" 1151)]) 0), #[]⟩) :: (nat_lit 734, ⟨(.type "tuple"), none, (.seq #[] 0), #[]⟩) :: (nat_lit 736, ⟨(.type "code"), none, (.fields (List.toArray [(.str "join" 1144), (.str "join" 1145), (.str "/claim/cut.py" 1146), (.int 572 0), (.int 1 0), (.int 0 0), (.int 0 0), (.int 7 0), (.ref 731), (.bool true), (.int 273 0), (.ref 732), .none, (.ref 733), (.ref 734), (.ref 735), (.int 1152 0), (.int 572 0), (.str "/claim/cut.py" 1153)])), #[]⟩) :: (nat_lit 737, ⟨(.type "function"), none, (.func ⟨"join", "join", ⟨[], [⟨"a", none, ⟨572, 9, 572, 10⟩⟩], (some ⟨"p", none, ⟨572, 13, 572, 14⟩⟩), [], [], none, []⟩, (.stmts [(.Expr (.Call (.Name "_kind" ⟨573, 4, 573, 9⟩) [(.Constant (.str "join") 0 ⟨573, 10, 573, 16⟩), (.Name "a" ⟨573, 18, 573, 19⟩)] [] ⟨573, 4, 573, 20⟩) ⟨573, 4, 573, 20⟩), (.For (.Name "b" ⟨574, 8, 574, 9⟩) (.Name "p" ⟨574, 13, 574, 14⟩) [(.Expr (.Call (.Name "_kind" ⟨575, 8, 575, 13⟩) [(.Constant (.str "join") 0 ⟨575, 14, 575, 20⟩), (.Name "b" ⟨575, 22, 575, 23⟩)] [] ⟨575, 8, 575, 24⟩) ⟨575, 8, 575, 24⟩)] [] ⟨574, 4, 575, 24⟩), (.Assign [(.Name "a" ⟨576, 4, 576, 5⟩)] (.Call (.Name "_fspath" ⟨576, 8, 576, 15⟩) [(.Constant (.str "join") 0 ⟨576, 16, 576, 22⟩), (.Name "a" ⟨576, 24, 576, 25⟩)] [] ⟨576, 8, 576, 26⟩) ⟨576, 4, 576, 26⟩), (.Assign [(.Name "sep" ⟨577, 4, 577, 7⟩)] (.Constant (.str "/") 0 ⟨577, 10, 577, 13⟩) ⟨577, 4, 577, 13⟩), (.Assign [(.Name "path" ⟨578, 4, 578, 8⟩)] (.Name "a" ⟨578, 11, 578, 12⟩) ⟨578, 4, 578, 12⟩), (.Try [(.For (.Name "b" ⟨580, 12, 580, 13⟩) (.Name "p" ⟨580, 17, 580, 18⟩) [(.Assign [(.Name "b" ⟨581, 12, 581, 13⟩)] (.Call (.Name "_fspath" ⟨581, 16, 581, 23⟩) [(.Constant (.str "join") 0 ⟨581, 24, 581, 30⟩), (.Name "b" ⟨581, 32, 581, 33⟩)] [] ⟨581, 16, 581, 34⟩) ⟨581, 12, 581, 34⟩), (.If (.BoolOp .Or [(.Call (.Attribute (.Name "b" ⟨582, 15, 582, 16⟩) "startswith" ⟨582, 15, 582, 27⟩) [(.Name "sep" ⟨582, 28, 582, 31⟩)] [] ⟨582, 15, 582, 32⟩), (.UnaryOp .Not (.Name "path" ⟨582, 40, 582, 44⟩) ⟨582, 36, 582, 44⟩)] ⟨582, 15, 582, 44⟩) [(.Assign [(.Name "path" ⟨583, 16, 583, 20⟩)] (.Name "b" ⟨583, 23, 583, 24⟩) ⟨583, 16, 583, 24⟩)] [(.If (.Call (.Attribute (.Name "path" ⟨584, 17, 584, 21⟩) "endswith" ⟨584, 17, 584, 30⟩) [(.Name "sep" ⟨584, 31, 584, 34⟩)] [] ⟨584, 17, 584, 35⟩) [(.AugAssign (.Name "path" ⟨585, 16, 585, 20⟩) .Add (.Name "b" ⟨585, 24, 585, 25⟩) ⟨585, 16, 585, 25⟩)] [(.AugAssign (.Name "path" ⟨587, 16, 587, 20⟩) .Add (.BinOp (.Name "sep" ⟨587, 24, 587, 27⟩) .Add (.Name "b" ⟨587, 30, 587, 31⟩) ⟨587, 24, 587, 31⟩) ⟨587, 16, 587, 31⟩)] ⟨584, 12, 587, 31⟩)] ⟨582, 12, 587, 31⟩)] [] ⟨580, 8, 587, 31⟩)] [⟨(some (.Tuple [(.Name "TypeError" ⟨588, 12, 588, 21⟩), (.Name "AttributeError" ⟨588, 23, 588, 37⟩), (.Name "BytesWarning" ⟨588, 39, 588, 51⟩)] 0 ⟨588, 11, 588, 52⟩)), none, [(.Expr (.Call (.Name "check_arg_types_path" ⟨589, 8, 589, 28⟩) [(.Constant (.str "join") 0 ⟨589, 29, 589, 35⟩), (.Name "a" ⟨589, 37, 589, 38⟩), (.Starred (.Name "p" ⟨589, 41, 589, 42⟩) ⟨589, 40, 589, 42⟩)] [] ⟨589, 8, 589, 43⟩) ⟨589, 8, 589, 43⟩), (.Raise none none ⟨590, 8, 590, 13⟩)], ⟨588, 4, 590, 13⟩⟩] [] [] ⟨579, 4, 590, 13⟩), (.Return (some (.Name "path" ⟨591, 11, 591, 15⟩)) ⟨591, 4, 591, 15⟩)]), ⟨.function, [("a", .local), ("p", .local), ("b", .local), ("sep", .local), ("path", .local), ("_kind", .globalImplicit), ("_fspath", .globalImplicit), ("TypeError", .globalImplicit), ("AttributeError", .globalImplicit), ("BytesWarning", .globalImplicit), ("check_arg_types_path", .globalImplicit)], false, false, []⟩, 3, [], .none, .none, .none, (.str "os.path" 1106), none, (.ref 736), .none, 0⟩), #[]⟩) :: (nat_lit 738, ⟨(.type "tuple"), none, (.seq #[] 0), #[]⟩) :: (nat_lit 740, ⟨(.type "tuple"), none, (.seq (List.toArray [(.str "p" 1159), (.str "sep" 1160), (.str "i" 1161), (.str "head" 1162)]) 0), #[]⟩) :: (nat_lit 741, ⟨(.type "tuple"), none, (.seq #[] 0), #[]⟩) :: (nat_lit 743, ⟨(.type "code"), none, (.fields (List.toArray [(.str "dirname" 1156), (.str "dirname" 1157), (.str "/claim/cut.py" 1158), (.int 593 0), (.int 1 0), (.int 0 0), (.int 0 0), (.int 3 0), (.ref 738), (.bool true), (.int 273 0), (.ref 739), .none, (.ref 740), (.ref 741), (.ref 742), (.int 1163 0), (.int 593 0), (.str "/claim/cut.py" 1164)])), #[]⟩) :: (nat_lit 744, ⟨(.type "function"), none, (.func ⟨"dirname", "dirname", (fA (mS 39)), (fB (mS 39)), (fS (mS 39)), 3, [], .none, .none, .none, (.str "os.path" 1106), none, (.ref 743), .none, 0⟩), #[]⟩) :: (nat_lit 752, ⟨(.type "tuple"), none, (.seq (List.toArray [.none, .none, (.bool false), (.bool false)]) 0), #[]⟩) :: (nat_lit 753, ⟨(.type "tuple"), none, (.seq #[] 0), #[]⟩) :: (nat_lit 755, ⟨(.type "tuple"), none, (.seq (List.toArray [(.str "self" 1183), (.str "instream" 1184), (.str "infile" 1185), (.str "posix" 1186), (.str "punctuation_chars" 1187), (.str "t" 1188)]) 0), #[]⟩) :: (nat_lit 756, ⟨(.type "tuple"), none, (.seq #[] 0), #[]⟩) :: (nat_lit 758, ⟨(.type "code"), none, (.fields (List.toArray [(.str "__init__" 1180), (.str "shlex.__init__" 1181), (.str "/claim/cut.py" 1182), (.int 604 0), (.int 5 0), (.int 0 0), (.int 0 0), (.int 3 0), (.ref 753), (.bool true), (.int 273 0), (.ref 754), .none, (.ref 755), (.ref 756), (.ref 757), (.int 1189 0), (.int 604 0), (.str "/claim/cut.py" 1190)])), #[]⟩) :: (nat_lit 759, ⟨(.type "function"), none, (.func ⟨"__init__", "shlex.__init__", ⟨[], [⟨"self", none, ⟨604, 17, 604, 21⟩⟩, ⟨"instream", none, ⟨604, 23, 604, 31⟩⟩, ⟨"infile", none, ⟨604, 38, 604, 44⟩⟩, ⟨"posix", none, ⟨604, 51, 604, 56⟩⟩, ⟨"punctuation_chars", none, ⟨604, 64, 604, 81⟩⟩], none, [], [], none, [(.Constant .none 0 ⟨604, 32, 604, 36⟩), (.Constant .none 0 ⟨604, 45, 604, 49⟩), (.Constant (.bool false) 0 ⟨604, 57, 604, 62⟩), (.Constant (.bool false) 0 ⟨604, 82, 604, 87⟩)]⟩, (.stmts [(.If (.Call (.Name "isinstance" ⟨605, 11, 605, 21⟩) [(.Name "instream" ⟨605, 22, 605, 30⟩), (.Name "str" ⟨605, 32, 605, 35⟩)] [] ⟨605, 11, 605, 36⟩) [(.Assign [(.Name "instream" ⟨606, 12, 606, 20⟩)] (.Call (.Name "StringIO" ⟨606, 23, 606, 31⟩) [(.Name "instream" ⟨606, 32, 606, 40⟩)] [] ⟨606, 23, 606, 41⟩) ⟨606, 12, 606, 41⟩)] [] ⟨605, 8, 606, 41⟩), (.If (.Compare (.Name "instream" ⟨607, 11, 607, 19⟩) [.IsNot] [(.Constant .none 0 ⟨607, 27, 607, 31⟩)] ⟨607, 11, 607, 31⟩) [(.Assign [(.Attribute (.Name "self" ⟨608, 12, 608, 16⟩) "instream" ⟨608, 12, 608, 25⟩)] (.Name "instream" ⟨608, 28, 608, 36⟩) ⟨608, 12, 608, 36⟩), (.Assign [(.Attribute (.Name "self" ⟨609, 12, 609, 16⟩) "infile" ⟨609, 12, 609, 23⟩)] (.Name "infile" ⟨609, 26, 609, 32⟩) ⟨609, 12, 609, 32⟩)] [(.Assign [(.Attribute (.Name "self" ⟨611, 12, 611, 16⟩) "instream" ⟨611, 12, 611, 25⟩)] (.Call (.Name "_wall" ⟨611, 28, 611, 33⟩) [(.Constant (.int 41) 0 ⟨611, 34, 611, 36⟩)] [] ⟨611, 28, 611, 37⟩) ⟨611, 12, 611, 37⟩), (.Assign [(.Attribute (.Name "self" ⟨612, 12, 612, 16⟩) "infile" ⟨612, 12, 612, 23⟩)] (.Constant .none 0 ⟨612, 26, 612, 30⟩) ⟨612, 12, 612, 30⟩)] ⟨607, 8, 612, 30⟩), (.Assign [(.Attribute (.Name "self" ⟨613, 8, 613, 12⟩) "posix" ⟨613, 8, 613, 18⟩)] (.Name "posix" ⟨613, 21, 613, 26⟩) ⟨613, 8, 613, 26⟩), (.If (.Name "posix" ⟨614, 11, 614, 16⟩) [(.Assign [(.Attribute (.Name "self" ⟨615, 12, 615, 16⟩) "eof" ⟨615, 12, 615, 20⟩)] (.Constant .none 0 ⟨615, 23, 615, 27⟩) ⟨615, 12, 615, 27⟩)] [(.Assign [(.Attribute (.Name "self" ⟨617, 12, 617, 16⟩) "eof" ⟨617, 12, 617, 20⟩)] (.Constant (.str "") 0 ⟨617, 23, 617, 25⟩) ⟨617, 12, 617, 25⟩)] ⟨614, 8, 617, 25⟩), (.Assign [(.Attribute (.Name "self" ⟨618, 8, 618, 12⟩) "commenters" ⟨618, 8, 618, 23⟩)] (.Constant (.str "#") 0 ⟨618, 26, 618, 29⟩) ⟨618, 8, 618, 29⟩), (.Assign [(.Attribute (.Name "self" ⟨619, 8, 619, 12⟩) "wordchars" ⟨619, 8, 619, 22⟩)] (.Constant (.str "abcdfeghijklmnopqrstuvwxyzABCDEFGHIJKLMNOPQRSTUVWXYZ0123456789_") 0 ⟨619, 25, 619, 90⟩) ⟨619, 8, 619, 90⟩), (.If (.Attribute (.Name "self" ⟨620, 11, 620, 15⟩) "posix" ⟨620, 11, 620, 21⟩) [(.AugAssign (.Attribute (.Name "self" ⟨621, 12, 621, 16⟩) "wordchars" ⟨621, 12, 621, 26⟩) .Add (.Constant (.str "ßàáâãäåæçèéêëìíîïðñòóôõöøùúûüýþÿÀÁÂÃÄÅÆÇÈÉÊËÌÍÎÏÐÑÒÓÔÕÖØÙÚÛÜÝÞ") 0 ⟨621, 30, 621, 156⟩) ⟨621, 12, 621, 156⟩)] [] ⟨620, 8, 621, 156⟩), (.Assign [(.Attribute (.Name "self" ⟨622, 8, 622, 12⟩) "whitespace" ⟨622, 8, 622, 23⟩)] (.Constant (.str " \t\x0d\n") 0 ⟨622, 26, 622, 35⟩) ⟨622, 8, 622, 35⟩), (.Assign [(.Attribute (.Name "self" ⟨623, 8, 623, 12⟩) "whitespace_split" ⟨623, 8, 623, 29⟩)] (.Constant (.bool false) 0 ⟨623, 32, 623, 37⟩) ⟨623, 8, 623, 37⟩), (.Assign [(.Attribute (.Name "self" ⟨624, 8, 624, 12⟩) "quotes" ⟨624, 8, 624, 19⟩)] (.Constant (.str "'\"") 0 ⟨624, 22, 624, 27⟩) ⟨624, 8, 624, 27⟩), (.Assign [(.Attribute (.Name "self" ⟨625, 8, 625, 12⟩) "escape" ⟨625, 8, 625, 19⟩)] (.Constant (.str "\\") 0 ⟨625, 22, 625, 26⟩) ⟨625, 8, 625, 26⟩), (.Assign [(.Attribute (.Name "self" ⟨626, 8, 626, 12⟩) "escapedquotes" ⟨626, 8, 626, 26⟩)] (.Constant (.str "\"") 0 ⟨626, 29, 626, 32⟩) ⟨626, 8, 626, 32⟩), (.Assign [(.Attribute (.Name "self" ⟨627, 8, 627, 12⟩) "state" ⟨627, 8, 627, 18⟩)] (.Constant (.str " ") 0 ⟨627, 21, 627, 24⟩) ⟨627, 8, 627, 24⟩), (.Assign [(.Attribute (.Name "self" ⟨628, 8, 628, 12⟩) "pushback" ⟨628, 8, 628, 21⟩)] (.Call (.Name "deque" ⟨628, 24, 628, 29⟩) [] [] ⟨628, 24, 628, 31⟩) ⟨628, 8, 628, 31⟩), (.Assign [(.Attribute (.Name "self" ⟨629, 8, 629, 12⟩) "lineno" ⟨629, 8, 629, 19⟩)] (.Constant (.int 1) 0 ⟨629, 22, 629, 23⟩) ⟨629, 8, 629, 23⟩), (.Assign [(.Attribute (.Name "self" ⟨630, 8, 630, 12⟩) "debug" ⟨630, 8, 630, 18⟩)] (.Constant (.int 0) 0 ⟨630, 21, 630, 22⟩) ⟨630, 8, 630, 22⟩), (.Assign [(.Attribute (.Name "self" ⟨631, 8, 631, 12⟩) "token" ⟨631, 8, 631, 18⟩)] (.Constant (.str "") 0 ⟨631, 21, 631, 23⟩) ⟨631, 8, 631, 23⟩), (.Assign [(.Attribute (.Name "self" ⟨632, 8, 632, 12⟩) "filestack" ⟨632, 8, 632, 22⟩)] (.Call (.Name "deque" ⟨632, 25, 632, 30⟩) [] [] ⟨632, 25, 632, 32⟩) ⟨632, 8, 632, 32⟩), (.Assign [(.Attribute (.Name "self" ⟨633, 8, 633, 12⟩) "source" ⟨633, 8, 633, 19⟩)] (.Constant .none 0 ⟨633, 22, 633, 26⟩) ⟨633, 8, 633, 26⟩), (.If (.UnaryOp .Not (.Name "punctuation_chars" ⟨634, 15, 634, 32⟩) ⟨634, 11, 634, 32⟩) [(.Assign [(.Name "punctuation_chars" ⟨635, 12, 635, 29⟩)] (.Constant (.str "") 0 ⟨635, 32, 635, 34⟩) ⟨635, 12, 635, 34⟩)] [(.If (.Compare (.Name "punctuation_chars" ⟨636, 13, 636, 30⟩) [.Is] [(.Constant (.bool true) 0 ⟨636, 34, 636, 38⟩)] ⟨636, 13, 636, 38⟩) [(.Assign [(.Name "punctuation_chars" ⟨637, 12, 637, 29⟩)] (.Constant (.str "();<>|&") 0 ⟨637, 32, 637, 41⟩) ⟨637, 12, 637, 41⟩)] [] ⟨636, 8, 637, 41⟩)] ⟨634, 8, 637, 41⟩), (.Assign [(.Attribute (.Name "self" ⟨638, 8, 638, 12⟩) "_punctuation_chars" ⟨638, 8, 638, 31⟩)] (.Name "punctuation_chars" ⟨638, 34, 638, 51⟩) ⟨638, 8, 638, 51⟩), (.If (.Name "punctuation_chars" ⟨639, 11, 639, 28⟩) [(.Assign [(.Attribute (.Name "self" ⟨640, 12, 640, 16⟩) "_pushback_chars" ⟨640, 12, 640, 32⟩)] (.Call (.Name "deque" ⟨640, 35, 640, 40⟩) [] [] ⟨640, 35, 640, 42⟩) ⟨640, 12, 640, 42⟩), (.AugAssign (.Attribute (.Name "self" ⟨641, 12, 641, 16⟩) "wordchars" ⟨641, 12, 641, 26⟩) .Add (.Constant (.str "~-./*?=") 0 ⟨641, 30, 641, 39⟩) ⟨641, 12, 641, 39⟩), (.Assign [(.Name "t" ⟨642, 12, 642, 13⟩)] (.Call (.Attribute (.Attribute (.Name "self" ⟨642, 16, 642, 20⟩) "wordchars" ⟨642, 16, 642, 30⟩) "maketrans" ⟨642, 16, 642, 40⟩) [(.Call (.Attribute (.Name "dict" ⟨642, 41, 642, 45⟩) "fromkeys" ⟨642, 41, 642, 54⟩) [(.Name "punctuation_chars" ⟨642, 55, 642, 72⟩)] [] ⟨642, 41, 642, 73⟩)] [] ⟨642, 16, 642, 74⟩) ⟨642, 12, 642, 74⟩), (.Assign [(.Attribute (.Name "self" ⟨643, 12, 643, 16⟩) "wordchars" ⟨643, 12, 643, 26⟩)] (.Call (.Attribute (.Attribute (.Name "self" ⟨643, 29, 643, 33⟩) "wordchars" ⟨643, 29, 643, 43⟩) "translate" ⟨643, 29, 643, 53⟩) [(.Name "t" ⟨643, 54, 643, 55⟩)] [] ⟨643, 29, 643, 56⟩) ⟨643, 12, 643, 56⟩)] [] ⟨639, 8, 643, 56⟩)]), ⟨.function, [("self", .local), ("instream", .local), ("infile", .local), ("posix", .local), ("punctuation_chars", .local), ("t", .local), ("isinstance", .globalImplicit), ("str", .globalImplicit), ("StringIO", .globalImplicit), ("_wall", .globalImplicit), ("deque", .globalImplicit), ("dict", .globalImplicit)], false, false, []⟩, 3, [], (.ref 752), .none, .none, (.str "cpy313.shlex" 1166), none, (.ref 758), .none, 0⟩), #[]⟩) :: (nat_lit 760, ⟨(.type "tuple"), none, (.seq #[] 0), #[]⟩) :: (nat_lit 762, ⟨(.type "tuple"), none, (.seq (List.toArray [(.str "self" 1195)]) 0), #[]⟩) :: (nat_lit 763, ⟨(.type "tuple"), none, (.seq #[] 0), #[]⟩) :: (nat_lit 765, ⟨(.type "code"), none, (.fields (List.toArray [(.str "punctuation_chars" 1192), (.str "shlex.punctuation_chars" 1193), (.str "/claim/cut.py" 1194), (.int 645 0), (.int 1 0), (.int 0 0), (.int 0 0), (.int 3 0), (.ref 760), (.bool true), (.int 273 0), (.ref 761), .none, (.ref 762), (.ref 763), (.ref 764), (.int 1196 0), (.int 645 0), (.str "/claim/cut.py" 1197)])), #[]⟩) :: (nat_lit 766, ⟨(.type "function"), none, (.func ⟨"punctuation_chars", "shlex.punctuation_chars", (fA (nS 41 1)), (fB (nS 41 1)), (fS (nS 41 1)), 3, [], .none, .none, .none, (.str "cpy313.shlex" 1166), none, (.ref 765), .none, 0⟩), #[]⟩) :: (nat_lit 767, ⟨(.type "property"), none, (.fields (List.toArray [(.ref 766), .none, .none, .none, (.str "punctuation_chars" 1199), (.bool false)])), #[]⟩) :: (nat_lit 768, ⟨(.type "tuple"), none, (.seq #[] 0), #[]⟩) :: (nat_lit 770, ⟨(.type "tuple"), none, (.seq (List.toArray [(.str "self" 1203), (.str "tok" 1204)]) 0), #[]⟩) :: (nat_lit 771, ⟨(.type "tuple"), none, (.seq #[] 0), #[]⟩) :: (nat_lit 773, ⟨(.type "code"), none, (.fields (List.toArray [(.str "push_token" 1200), (.str "shlex.push_token" 1201), (.str "/claim/cut.py" 1202), (.int 649 0), (.int 2 0), (.int 0 0), (.int 0 0), (.int 3 0), (.ref 768), (.bool true), (.int 273 0), (.ref 769), .none, (.ref 770), (.ref 771), (.ref 772), (.int 1205 0), (.int 649 0), (.str "/claim/cut.py" 1206)])), #[]⟩) :: (nat_lit 774, ⟨(.type "function"), none, (.func ⟨"push_token", "shlex.push_token", (fA (nS 41 2)), (fB (nS 41 2)), (fS (nS 41 2)), 3, [], .none, .none, .none, (.str "cpy313.shlex" 1166), none, (.ref 773), .none, 0⟩), #[]⟩) :: (nat_lit 775, ⟨(.type "tuple"), none, (.seq (List.toArray [.none]) 0), #[]⟩) :: (nat_lit 776, ⟨(.type "tuple"), none, (.seq #[] 0), #[]⟩) :: (nat_lit 778, ⟨(.type "tuple"), none, (.seq (List.toArray [(.str "self" 1211), (.str "newstream" 1212), (.str "newfile" 1213)]) 0), #[]⟩) :: (nat_lit 779, ⟨(.type "tuple"), none, (.seq #[] 0), #[]⟩) :: (nat_lit 781, ⟨(.type "code"), none, (.fields (List.toArray [(.str "push_source" 1208), (.str "shlex.push_source" 1209), (.str "/claim/cut.py" 1210), (.int 652 0), (.int 3 0), (.int 0 0), (.int 0 0), (.int 3 0), (.ref 776), (.bool true), (.int 273 0), (.ref 777), .none, (.ref 778), (.ref 779), (.ref 780), (.int 1214 0), (.int 652 0), (.str "/claim/cut.py" 1215)])), #[]⟩) :: (nat_lit 782, ⟨(.type "function"), none, (.func ⟨"push_source", "shlex.push_source", (fA (nS 41 3)), (fB (nS 41 3)), (fS (nS 41 3)), 3, [], (.ref 775), .none, .none, (.str "cpy313.shlex" 1166), none, (.ref 781), .none, 0⟩), #[]⟩) :: (nat_lit 783, ⟨(.type "tuple"), none, (.seq #[] 0), #[]⟩) :: (nat_lit 785, ⟨(.type "tuple"), none, (.seq (List.toArray [(.str "self" 1220)]) 0), #[]⟩) :: (nat_lit 786, ⟨(.type "tuple"), none, (.seq #[] 0), #[]⟩) :: (nat_lit 788, ⟨(.type "code"), none, (.fields (List.toArray [(.str "pop_source" 1217), (.str "shlex.pop_source" 1218), (.str "/claim/cut.py" 1219), (.int 665 0), (.int 1 0), (.int 0 0), (.int 0 0), (.int 3 0), (.ref 783), (.bool true), (.int 273 0), (.ref 784), .none, (.ref 785), (.ref 786), (.ref 787), (.int 1221 0), (.int 665 0), (.str "/claim/cut.py" 1222)])), #[]⟩) :: (nat_lit 789, ⟨(.type "function"), none, (.func ⟨"pop_source", "shlex.pop_source", (fA (nS 41 4)), (fB (nS 41 4)), (fS (nS 41 4)), 3, [], .none, .none, .none, (.str "cpy313.shlex" 1166), none, (.ref 788), .none, 0⟩), #[]⟩) :: (nat_lit 790, ⟨(.type "tuple"), none, (.seq #[] 0), #[]⟩) :: (nat_lit 792, ⟨(.type "tuple"), none, (.seq (List.toArray [(.str "self" 1227), (.str "tok" 1228), (.str "raw" 1229), (.str "spec" 1230), (.str "newfile" 1231), (.str "newstream" 1232)]) 0), #[]⟩) :: (nat_lit 793, ⟨(.type "tuple"), none, (.seq #[] 0), #[]⟩) :: (nat_lit 795, ⟨(.type "code"), none, (.fields (List.toArray [(.str "get_token" 1224), (.str "shlex.get_token" 1225), (.str "/claim/cut.py" 1226), (.int 672 0), (.int 1 0), (.int 0 0), (.int 0 0), (.int 3 0), (.ref 790), (.bool true), (.int 273 0), (.ref 791), .none, (.ref 792), (.ref 793), (.ref 794), (.int 1233 0), (.int 672 0), (.str "/claim/cut.py" 1234)])), #[]⟩) :: (nat_lit 796, ⟨(.type "function"), none, (.func ⟨"get_token", "shlex.get_token", ⟨[], [⟨"self", none, ⟨672, 18, 672, 22⟩⟩], none, [], [], none, []⟩, (.stmts [(.If (.Attribute (.Name "self" ⟨673, 11, 673, 15⟩) "pushback" ⟨673, 11, 673, 24⟩) [(.Assign [(.Name "tok" ⟨674, 12, 674, 15⟩)] (.Call (.Attribute (.Attribute (.Name "self" ⟨674, 18, 674, 22⟩) "pushback" ⟨674, 18, 674, 31⟩) "popleft" ⟨674, 18, 674, 39⟩) [] [] ⟨674, 18, 674, 41⟩) ⟨674, 12, 674, 41⟩), (.If (.Compare (.Attribute (.Name "self" ⟨675, 15, 675, 19⟩) "debug" ⟨675, 15, 675, 25⟩) [.GtE] [(.Constant (.int 1) 0 ⟨675, 29, 675, 30⟩)] ⟨675, 15, 675, 30⟩) [(.Expr (.Call (.Name "print" ⟨676, 16, 676, 21⟩) [(.BinOp (.Constant (.str "shlex: popping token ") 0 ⟨676, 22, 676, 45⟩) .Add (.Call (.Name "repr" ⟨676, 48, 676, 52⟩) [(.Name "tok" ⟨676, 53, 676, 56⟩)] [] ⟨676, 48, 676, 57⟩) ⟨676, 22, 676, 57⟩)] [] ⟨676, 16, 676, 58⟩) ⟨676, 16, 676, 58⟩)] [] ⟨675, 12, 676, 58⟩), (.Return (some (.Name "tok" ⟨677, 19, 677, 22⟩)) ⟨677, 12, 677, 22⟩)] [] ⟨673, 8, 677, 22⟩), (.Assign [(.Name "raw" ⟨678, 8, 678, 11⟩)] (.Call (.Attribute (.Name "self" ⟨678, 14, 678, 18⟩) "read_token" ⟨678, 14, 678, 29⟩) [] [] ⟨678, 14, 678, 31⟩) ⟨678, 8, 678, 31⟩), (.If (.Compare (.Attribute (.Name "self" ⟨679, 11, 679, 15⟩) "source" ⟨679, 11, 679, 22⟩) [.IsNot] [(.Constant .none 0 ⟨679, 30, 679, 34⟩)] ⟨679, 11, 679, 34⟩) [(.While (.Compare (.Name "raw" ⟨680, 18, 680, 21⟩) [.Eq] [(.Attribute (.Name "self" ⟨680, 25, 680, 29⟩) "source" ⟨680, 25, 680, 36⟩)] ⟨680, 18, 680, 36⟩) [(.Assign [(.Name "spec" ⟨681, 16, 681, 20⟩)] (.Call (.Attribute (.Name "self" ⟨681, 23, 681, 27⟩) "sourcehook" ⟨681, 23, 681, 38⟩) [(.Call (.Attribute (.Name "self" ⟨681, 39, 681, 43⟩) "read_token" ⟨681, 39, 681, 54⟩) [] [] ⟨681, 39, 681, 56⟩)] [] ⟨681, 23, 681, 57⟩) ⟨681, 16, 681, 57⟩), (.If (.Name "spec" ⟨682, 19, 682, 23⟩) [(.Assign [(.Tuple [(.Name "newfile" ⟨683, 20, 683, 27⟩), (.Name "newstream" ⟨683, 29, 683, 38⟩)] 0 ⟨683, 20, 683, 38⟩)] (.Name "spec" ⟨683, 41, 683, 45⟩) ⟨683, 20, 683, 45⟩), (.Expr (.Call (.Attribute (.Name "self" ⟨684, 20, 684, 24⟩) "push_source" ⟨684, 20, 684, 36⟩) [(.Name "newstream" ⟨684, 37, 684, 46⟩), (.Name "newfile" ⟨684, 48, 684, 55⟩)] [] ⟨684, 20, 684, 56⟩) ⟨684, 20, 684, 56⟩)] [] ⟨682, 16, 684, 56⟩), (.Assign [(.Name "raw" ⟨685, 16, 685, 19⟩)] (.Call (.Attribute (.Name "self" ⟨685, 22, 685, 26⟩) "get_token" ⟨685, 22, 685, 36⟩) [] [] ⟨685, 22, 685, 38⟩) ⟨685, 16, 685, 38⟩)] [] ⟨680, 12, 685, 38⟩)] [] ⟨679, 8, 685, 38⟩), (.While (.Compare (.Name "raw" ⟨686, 14, 686, 17⟩) [.Eq] [(.Attribute (.Name "self" ⟨686, 21, 686, 25⟩) "eof" ⟨686, 21, 686, 29⟩)] ⟨686, 14, 686, 29⟩) [(.If (.UnaryOp .Not (.Attribute (.Name "self" ⟨687, 19, 687, 23⟩) "filestack" ⟨687, 19, 687, 33⟩) ⟨687, 15, 687, 33⟩) [(.Return (some (.Attribute (.Name "self" ⟨688, 23, 688, 27⟩) "eof" ⟨688, 23, 688, 31⟩)) ⟨688, 16, 688, 31⟩)] [(.Expr (.Call (.Attribute (.Name "self" ⟨690, 16, 690, 20⟩) "pop_source" ⟨690, 16, 690, 31⟩) [] [] ⟨690, 16, 690, 33⟩) ⟨690, 16, 690, 33⟩), (.Assign [(.Name "raw" ⟨691, 16, 691, 19⟩)] (.Call (.Attribute (.Name "self" ⟨691, 22, 691, 26⟩) "get_token" ⟨691, 22, 691, 36⟩) [] [] ⟨691, 22, 691, 38⟩) ⟨691, 16, 691, 38⟩)] ⟨687, 12, 691, 38⟩)] [] ⟨686, 8, 691, 38⟩), (.If (.Compare (.Attribute (.Name "self" ⟨692, 11, 692, 15⟩) "debug" ⟨692, 11, 692, 21⟩) [.GtE] [(.Constant (.int 1) 0 ⟨692, 25, 692, 26⟩)] ⟨692, 11, 692, 26⟩) [(.If (.Compare (.Name "raw" ⟨693, 15, 693, 18⟩) [.NotEq] [(.Attribute (.Name "self" ⟨693, 22, 693, 26⟩) "eof" ⟨693, 22, 693, 30⟩)] ⟨693, 15, 693, 30⟩) [(.Expr (.Call (.Name "print" ⟨694, 16, 694, 21⟩) [(.BinOp (.Constant (.str "shlex: token=") 0 ⟨694, 22, 694, 37⟩) .Add (.Call (.Name "repr" ⟨694, 40, 694, 44⟩) [(.Name "raw" ⟨694, 45, 694, 48⟩)] [] ⟨694, 40, 694, 49⟩) ⟨694, 22, 694, 49⟩)] [] ⟨694, 16, 694, 50⟩) ⟨694, 16, 694, 50⟩)] [(.Expr (.Call (.Name "print" ⟨696, 16, 696, 21⟩) [(.Constant (.str "shlex: token=EOF") 0 ⟨696, 22, 696, 40⟩)] [] ⟨696, 16, 696, 41⟩) ⟨696, 16, 696, 41⟩)] ⟨693, 12, 696, 41⟩)] [] ⟨692, 8, 696, 41⟩), (.Return (some (.Name "raw" ⟨697, 15, 697, 18⟩)) ⟨697, 8, 697, 18⟩)]), ⟨.function, [("self", .local), ("tok", .local), ("raw", .local), ("spec", .local), ("newfile", .local), ("newstream", .local), ("print", .globalImplicit), ("repr", .globalImplicit)], false, false, []⟩, 3, [], .none, .none, .none, (.str "cpy313.shlex" 1166), none, (.ref 795), .none, 0⟩), #[]⟩) :: (nat_lit 797, ⟨(.type "tuple"), none, (.seq #[] 0), #[]⟩) :: (nat_lit 799, ⟨(.type "tuple"), none, (.seq (List.toArray [(.str "self" 1239), (.str "quoted" 1240), (.str "escapedstate" 1241), (.str "nextchar" 1242), (.str "result" 1243)]) 0), #[]⟩) :: (nat_lit 800, ⟨(.type "tuple"), none, (.seq #[] 0), #[]⟩) :: (nat_lit 802, ⟨(.type "code"), none, (.fields (List.toArray [(.str "read_token" 1236), (.str "shlex.read_token" 1237), (.str "/claim/cut.py" 1238), (.int 699 0), (.int 1 0), (.int 0 0), (.int 0 0), (.int 3 0), (.ref 797), (.bool true), (.int 273 0), (.ref 798), .none, (.ref 799), (.ref 800), (.ref 801), (.int 1244 0), (.int 699 0), (.str "/claim/cut.py" 1245)])), #[]⟩) :: (nat_lit 803, ⟨(.type "function"), none, (.func ⟨"read_token", "shlex.read_token", ⟨[], [⟨"self", none, ⟨699, 19, 699, 23⟩⟩], none, [], [], none, []⟩, (.stmts [(.Assign [(.Name "quoted" ⟨700, 8, 700, 14⟩)] (.Constant (.bool false) 0 ⟨700, 17, 700, 22⟩) ⟨700, 8, 700, 22⟩), (.Assign [(.Name "escapedstate" ⟨701, 8, 701, 20⟩)] (.Constant (.str " ") 0 ⟨701, 23, 701, 26⟩) ⟨701, 8, 701, 26⟩), (.While (.Constant (.bool true) 0 ⟨702, 14, 702, 18⟩) [(.If (.BoolOp .And [(.Attribute (.Name "self" ⟨703, 15, 703, 19⟩) "punctuation_chars" ⟨703, 15, 703, 37⟩), (.Attribute (.Name "self" ⟨703, 42, 703, 46⟩) "_pushback_chars" ⟨703, 42, 703, 62⟩)] ⟨703, 15, 703, 62⟩) [(.Assign [(.Name "nextchar" ⟨704, 16, 704, 24⟩)] (.Call (.Attribute (.Attribute (.Name "self" ⟨704, 27, 704, 31⟩) "_pushback_chars" ⟨704, 27, 704, 47⟩) "pop" ⟨704, 27, 704, 51⟩) [] [] ⟨704, 27, 704, 53⟩) ⟨704, 16, 704, 53⟩)] [(.Assign [(.Name "nextchar" ⟨706, 16, 706, 24⟩)] (.Call (.Attribute (.Attribute (.Name "self" ⟨706, 27, 706, 31⟩) "instream" ⟨706, 27, 706, 40⟩) "read" ⟨706, 27, 706, 45⟩) [(.Constant (.int 1) 0 ⟨706, 46, 706, 47⟩)] [] ⟨706, 27, 706, 48⟩) ⟨706, 16, 706, 48⟩)] ⟨703, 12, 706, 48⟩), (.If (.Compare (.Name "nextchar" ⟨707, 15, 707, 23⟩) [.Eq] [(.Constant (.str "\n") 0 ⟨707, 27, 707, 31⟩)] ⟨707, 15, 707, 31⟩) [(.AugAssign (.Attribute (.Name "self" ⟨708, 16, 708, 20⟩) "lineno" ⟨708, 16, 708, 27⟩) .Add (.Constant (.int 1) 0 ⟨708, 31, 708, 32⟩) ⟨708, 16, 708, 32⟩)] [] ⟨707, 12, 708, 32⟩), (.If (.Compare (.Attribute (.Name "self" ⟨709, 15, 709, 19⟩) "debug" ⟨709, 15, 709, 25⟩) [.GtE] [(.Constant (.int 3) 0 ⟨709, 29, 709, 30⟩)] ⟨709, 15, 709, 30⟩) [(.Expr (.Call (.Name "print" ⟨710, 16, 710, 21⟩) [(.JoinedStr [(.Constant (.str "shlex: in state ") 0 ⟨710, 22, 710, 62⟩), (.FormattedValue (.Attribute (.Name "self" ⟨710, 66, 710, 70⟩) "state" ⟨710, 66, 710, 76⟩) 114 none ⟨710, 66, 710, 76⟩), (.Constant (.str " I see character: ") 0 ⟨710, 22, 710, 62⟩), (.FormattedValue (.Name "nextchar" ⟨710, 78, 710, 86⟩) 114 none ⟨710, 78, 710, 86⟩)] ⟨710, 22, 710, 87⟩)] [] ⟨710, 16, 710, 88⟩) ⟨710, 16, 710, 88⟩)] [] ⟨709, 12, 710, 88⟩), (.If (.Compare (.Attribute (.Name "self" ⟨711, 15, 711, 19⟩) "state" ⟨711, 15, 711, 25⟩) [.Is] [(.Constant .none 0 ⟨711, 29, 711, 33⟩)] ⟨711, 15, 711, 33⟩) [(.Assign [(.Attribute (.Name "self" ⟨712, 16, 712, 20⟩) "token" ⟨712, 16, 712, 26⟩)] (.Constant (.str "") 0 ⟨712, 29, 712, 31⟩) ⟨712, 16, 712, 31⟩), (.Break ⟨713, 16, 713, 21⟩)] [(.If (.Compare (.Attribute (.Name "self" ⟨714, 17, 714, 21⟩) "state" ⟨714, 17, 714, 27⟩) [.Eq] [(.Constant (.str " ") 0 ⟨714, 31, 714, 34⟩)] ⟨714, 17, 714, 34⟩) [(.If (.UnaryOp .Not (.Name "nextchar" ⟨715, 23, 715, 31⟩) ⟨715, 19, 715, 31⟩) [(.Assign [(.Attribute (.Name "self" ⟨716, 20, 716, 24⟩) "state" ⟨716, 20, 716, 30⟩)] (.Constant .none 0 ⟨716, 33, 716, 37⟩) ⟨716, 20, 716, 37⟩), (.Break ⟨717, 20, 717, 25⟩)] [(.If (.Compare (.Name "nextchar" ⟨718, 21, 718, 29⟩) [.In] [(.Attribute (.Name "self" ⟨718, 33, 718, 37⟩) "whitespace" ⟨718, 33, 718, 48⟩)] ⟨718, 21, 718, 48⟩) [(.If (.Compare (.Attribute (.Name "self" ⟨719, 23, 719, 27⟩) "debug" ⟨719, 23, 719, 33⟩) [.GtE] [(.Constant (.int 2) 0 ⟨719, 37, 719, 38⟩)] ⟨719, 23, 719, 38⟩) [(.Expr (.Call (.Name "print" ⟨720, 24, 720, 29⟩) [(.Constant (.str "shlex: I see whitespace in whitespace state") 0 ⟨720, 30, 720, 75⟩)] [] ⟨720, 24, 720, 76⟩) ⟨720, 24, 720, 76⟩)] [] ⟨719, 20, 720, 76⟩), (.If (.BoolOp .Or [(.Attribute (.Name "self" ⟨721, 23, 721, 27⟩) "token" ⟨721, 23, 721, 33⟩), (.BoolOp .And [(.Attribute (.Name "self" ⟨721, 38, 721, 42⟩) "posix" ⟨721, 38, 721, 48⟩), (.Name "quoted" ⟨721, 53, 721, 59⟩)] ⟨721, 38, 721, 59⟩)] ⟨721, 23, 721, 60⟩) [(.Break ⟨722, 24, 722, 29⟩)] [(.Continue ⟨724, 24, 724, 32⟩)] ⟨721, 20, 724, 32⟩)] [(.If (.Compare (.Name "nextchar" ⟨725, 21, 725, 29⟩) [.In] [(.Attribute (.Name "self" ⟨725, 33, 725, 37⟩) "commenters" ⟨725, 33, 725, 48⟩)] ⟨725, 21, 725, 48⟩) [(.Expr (.Call (.Attribute (.Attribute (.Name "self" ⟨726, 20, 726, 24⟩) "instream" ⟨726, 20, 726, 33⟩) "readline" ⟨726, 20, 726, 42⟩) [] [] ⟨726, 20, 726, 44⟩) ⟨726, 20, 726, 44⟩), (.AugAssign (.Attribute (.Name "self" ⟨727, 20, 727, 24⟩) "lineno" ⟨727, 20, 727, 31⟩) .Add (.Constant (.int 1) 0 ⟨727, 35, 727, 36⟩) ⟨727, 20, 727, 36⟩)] [(.If (.BoolOp .And [(.Attribute (.Name "self" ⟨728, 21, 728, 25⟩) "posix" ⟨728, 21, 728, 31⟩), (.Compare (.Name "nextchar" ⟨728, 36, 728, 44⟩) [.In] [(.Attribute (.Name "self" ⟨728, 48, 728, 52⟩) "escape" ⟨728, 48, 728, 59⟩)] ⟨728, 36, 728, 59⟩)] ⟨728, 21, 728, 59⟩) [(.Assign [(.Name "escapedstate" ⟨729, 20, 729, 32⟩)] (.Constant (.str "a") 0 ⟨729, 35, 729, 38⟩) ⟨729, 20, 729, 38⟩), (.Assign [(.Attribute (.Name "self" ⟨730, 20, 730, 24⟩) "state" ⟨730, 20, 730, 30⟩)] (.Name "nextchar" ⟨730, 33, 730, 41⟩) ⟨730, 20, 730, 41⟩)] [(.If (.Compare (.Name "nextchar" ⟨731, 21, 731, 29⟩) [.In] [(.Attribute (.Name "self" ⟨731, 33, 731, 37⟩) "wordchars" ⟨731, 33, 731, 47⟩)] ⟨731, 21, 731, 47⟩) [(.Assign [(.Attribute (.Name "self" ⟨732, 20, 732, 24⟩) "token" ⟨732, 20, 732, 30⟩)] (.Name "nextchar" ⟨732, 33, 732, 41⟩) ⟨732, 20, 732, 41⟩), (.Assign [(.Attribute (.Name "self" ⟨733, 20, 733, 24⟩) "state" ⟨733, 20, 733, 30⟩)] (.Constant (.str "a") 0 ⟨733, 33, 733, 36⟩) ⟨733, 20, 733, 36⟩)] [(.If (.Compare (.Name "nextchar" ⟨734, 21, 734, 29⟩) [.In] [(.Attribute (.Name "self" ⟨734, 33, 734, 37⟩) "punctuation_chars" ⟨734, 33, 734, 55⟩)] ⟨734, 21, 734, 55⟩) [(.Assign [(.Attribute (.Name "self" ⟨735, 20, 735, 24⟩) "token" ⟨735, 20, 735, 30⟩)] (.Name "nextchar" ⟨735, 33, 735, 41⟩) ⟨735, 20, 735, 41⟩), (.Assign [(.Attribute (.Name "self" ⟨736, 20, 736, 24⟩) "state" ⟨736, 20, 736, 30⟩)] (.Constant (.str "c") 0 ⟨736, 33, 736, 36⟩) ⟨736, 20, 736, 36⟩)] [(.If (.Compare (.Name "nextchar" ⟨737, 21, 737, 29⟩) [.In] [(.Attribute (.Name "self" ⟨737, 33, 737, 37⟩) "quotes" ⟨737, 33, 737, 44⟩)] ⟨737, 21, 737, 44⟩) [(.If (.UnaryOp .Not (.Attribute (.Name "self" ⟨738, 27, 738, 31⟩) "posix" ⟨738, 27, 738, 37⟩) ⟨738, 23, 738, 37⟩) [(.Assign [(.Attribute (.Name "self" ⟨739, 24, 739, 28⟩) "token" ⟨739, 24, 739, 34⟩)] (.Name "nextchar" ⟨739, 37, 739, 45⟩) ⟨739, 24, 739, 45⟩)] [] ⟨738, 20, 739, 45⟩), (.Assign [(.Attribute (.Name "self" ⟨740, 20, 740, 24⟩) "state" ⟨740, 20, 740, 30⟩)] (.Name "nextchar" ⟨740, 33, 740, 41⟩) ⟨740, 20, 740, 41⟩)] [(.If (.Attribute (.Name "self" ⟨741, 21, 741, 25⟩) "whitespace_split" ⟨741, 21, 741, 42⟩) [(.Assign [(.Attribute (.Name "self" ⟨742, 20, 742, 24⟩) "token" ⟨742, 20, 742, 30⟩)] (.Name "nextchar" ⟨742, 33, 742, 41⟩) ⟨742, 20, 742, 41⟩), (.Assign [(.Attribute (.Name "self" ⟨743, 20, 743, 24⟩) "state" ⟨743, 20, 743, 30⟩)] (.Constant (.str "a") 0 ⟨743, 33, 743, 36⟩) ⟨743, 20, 743, 36⟩)] [(.Assign [(.Attribute (.Name "self" ⟨745, 20, 745, 24⟩) "token" ⟨745, 20, 745, 30⟩)] (.Name "nextchar" ⟨745, 33, 745, 41⟩) ⟨745, 20, 745, 41⟩), (.If (.BoolOp .Or [(.Attribute (.Name "self" ⟨746, 23, 746, 27⟩) "token" ⟨746, 23, 746, 33⟩), (.BoolOp .And [(.Attribute (.Name "self" ⟨746, 38, 746, 42⟩) "posix" ⟨746, 38, 746, 48⟩), (.Name "quoted" ⟨746, 53, 746, 59⟩)] ⟨746, 38, 746, 59⟩)] ⟨746, 23, 746, 60⟩) [(.Break ⟨747, 24, 747, 29⟩)] [(.Continue ⟨749, 24, 749, 32⟩)] ⟨746, 20, 749, 32⟩)] ⟨741, 16, 749, 32⟩)] ⟨737, 16, 749, 32⟩)] ⟨734, 16, 749, 32⟩)] ⟨731, 16, 749, 32⟩)] ⟨728, 16, 749, 32⟩)] ⟨725, 16, 749, 32⟩)] ⟨718, 16, 749, 32⟩)] ⟨715, 16, 749, 32⟩)] [(.If (.Compare (.Attribute (.Name "self" ⟨750, 17, 750, 21⟩) "state" ⟨750, 17, 750, 27⟩) [.In] [(.Attribute (.Name "self" ⟨750, 31, 750, 35⟩) "quotes" ⟨750, 31, 750, 42⟩)] ⟨750, 17, 750, 42⟩) [(.Assign [(.Name "quoted" ⟨751, 16, 751, 22⟩)] (.Constant (.bool true) 0 ⟨751, 25, 751, 29⟩) ⟨751, 16, 751, 29⟩), (.If (.UnaryOp .Not (.Name "nextchar" ⟨752, 23, 752, 31⟩) ⟨752, 19, 752, 31⟩) [(.If (.Compare (.Attribute (.Name "self" ⟨753, 23, 753, 27⟩) "debug" ⟨753, 23, 753, 33⟩) [.GtE] [(.Constant (.int 2) 0 ⟨753, 37, 753, 38⟩)] ⟨753, 23, 753, 38⟩) [(.Expr (.Call (.Name "print" ⟨754, 24, 754, 29⟩) [(.Constant (.str "shlex: I see EOF in quotes state") 0 ⟨754, 30, 754, 64⟩)] [] ⟨754, 24, 754, 65⟩) ⟨754, 24, 754, 65⟩)] [] ⟨753, 20, 754, 65⟩), (.Raise (some (.Call (.Name "ValueError" ⟨755, 26, 755, 36⟩) [(.Constant (.str "No closing quotation") 0 ⟨755, 37, 755, 59⟩)] [] ⟨755, 26, 755, 60⟩)) none ⟨755, 20, 755, 60⟩)] [] ⟨752, 16, 755, 60⟩), (.If (.Compare (.Name "nextchar" ⟨756, 19, 756, 27⟩) [.Eq] [(.Attribute (.Name "self" ⟨756, 31, 756, 35⟩) "state" ⟨756, 31, 756, 41⟩)] ⟨756, 19, 756, 41⟩) [(.If (.UnaryOp .Not (.Attribute (.Name "self" ⟨757, 27, 757, 31⟩) "posix" ⟨757, 27, 757, 37⟩) ⟨757, 23, 757, 37⟩) [(.AugAssign (.Attribute (.Name "self" ⟨758, 24, 758, 28⟩) "token" ⟨758, 24, 758, 34⟩) .Add (.Name "nextchar" ⟨758, 38, 758, 46⟩) ⟨758, 24, 758, 46⟩), (.Assign [(.Attribute (.Name "self" ⟨759, 24, 759, 28⟩) "state" ⟨759, 24, 759, 34⟩)] (.Constant (.str " ") 0 ⟨759, 37, 759, 40⟩) ⟨759, 24, 759, 40⟩), (.Break ⟨760, 24, 760, 29⟩)] [(.Assign [(.Attribute (.Name "self" ⟨762, 24, 762, 28⟩) "state" ⟨762, 24, 762, 34⟩)] (.Constant (.str "a") 0 ⟨762, 37, 762, 40⟩) ⟨762, 24, 762, 40⟩)] ⟨757, 20, 762, 40⟩)] [(.If (.BoolOp .And [(.Attribute (.Name "self" ⟨763, 21, 763, 25⟩) "posix" ⟨763, 21, 763, 31⟩), (.Compare (.Name "nextchar" ⟨763, 36, 763, 44⟩) [.In] [(.Attribute (.Name "self" ⟨763, 48, 763, 52⟩) "escape" ⟨763, 48, 763, 59⟩)] ⟨763, 36, 763, 59⟩), (.Compare (.Attribute (.Name "self" ⟨763, 65, 763, 69⟩) "state" ⟨763, 65, 763, 75⟩) [.In] [(.Attribute (.Name "self" ⟨763, 79, 763, 83⟩) "escapedquotes" ⟨763, 79, 763, 97⟩)] ⟨763, 65, 763, 97⟩)] ⟨763, 21, 763, 98⟩) [(.Assign [(.Name "escapedstate" ⟨764, 20, 764, 32⟩)] (.Attribute (.Name "self" ⟨764, 35, 764, 39⟩) "state" ⟨764, 35, 764, 45⟩) ⟨764, 20, 764, 45⟩), (.Assign [(.Attribute (.Name "self" ⟨765, 20, 765, 24⟩) "state" ⟨765, 20, 765, 30⟩)] (.Name "nextchar" ⟨765, 33, 765, 41⟩) ⟨765, 20, 765, 41⟩)] [(.AugAssign (.Attribute (.Name "self" ⟨767, 20, 767, 24⟩) "token" ⟨767, 20, 767, 30⟩) .Add (.Name "nextchar" ⟨767, 34, 767, 42⟩) ⟨767, 20, 767, 42⟩)] ⟨763, 16, 767, 42⟩)] ⟨756, 16, 767, 42⟩)] [(.If (.Compare (.Attribute (.Name "self" ⟨768, 17, 768, 21⟩) "state" ⟨768, 17, 768, 27⟩) [.In] [(.Attribute (.Name "self" ⟨768, 31, 768, 35⟩) "escape" ⟨768, 31, 768, 42⟩)] ⟨768, 17, 768, 42⟩) [(.If (.UnaryOp .Not (.Name "nextchar" ⟨769, 23, 769, 31⟩) ⟨769, 19, 769, 31⟩) [(.If (.Compare (.Attribute (.Name "self" ⟨770, 23, 770, 27⟩) "debug" ⟨770, 23, 770, 33⟩) [.GtE] [(.Constant (.int 2) 0 ⟨770, 37, 770, 38⟩)] ⟨770, 23, 770, 38⟩) [(.Expr (.Call (.Name "print" ⟨771, 24, 771, 29⟩) [(.Constant (.str "shlex: I see EOF in escape state") 0 ⟨771, 30, 771, 64⟩)] [] ⟨771, 24, 771, 65⟩) ⟨771, 24, 771, 65⟩)] [] ⟨770, 20, 771, 65⟩), (.Raise (some (.Call (.Name "ValueError" ⟨772, 26, 772, 36⟩) [(.Constant (.str "No escaped character") 0 ⟨772, 37, 772, 59⟩)] [] ⟨772, 26, 772, 60⟩)) none ⟨772, 20, 772, 60⟩)] [] ⟨769, 16, 772, 60⟩), (.If (.BoolOp .And [(.Compare (.Name "escapedstate" ⟨773, 19, 773, 31⟩) [.In] [(.Attribute (.Name "self" ⟨773, 35, 773, 39⟩) "quotes" ⟨773, 35, 773, 46⟩)] ⟨773, 19, 773, 46⟩), (.Compare (.Name "nextchar" ⟨773, 51, 773, 59⟩) [.NotEq] [(.Attribute (.Name "self" ⟨773, 63, 773, 67⟩) "state" ⟨773, 63, 773, 73⟩)] ⟨773, 51, 773, 73⟩), (.Compare (.Name "nextchar" ⟨773, 79, 773, 87⟩) [.NotEq] [(.Name "escapedstate" ⟨773, 91, 773, 103⟩)] ⟨773, 79, 773, 103⟩)] ⟨773, 19, 773, 104⟩) [(.AugAssign (.Attribute (.Name "self" ⟨774, 20, 774, 24⟩) "token" ⟨774, 20, 774, 30⟩) .Add (.Attribute (.Name "self" ⟨774, 34, 774, 38⟩) "state" ⟨774, 34, 774, 44⟩) ⟨774, 20, 774, 44⟩)] [] ⟨773, 16, 774, 44⟩), (.AugAssign (.Attribute (.Name "self" ⟨775, 16, 775, 20⟩) "token" ⟨775, 16, 775, 26⟩) .Add (.Name "nextchar" ⟨775, 30, 775, 38⟩) ⟨775, 16, 775, 38⟩), (.Assign [(.Attribute (.Name "self" ⟨776, 16, 776, 20⟩) "state" ⟨776, 16, 776, 26⟩)] (.Name "escapedstate" ⟨776, 29, 776, 41⟩) ⟨776, 16, 776, 41⟩)] [(.If (.Compare (.Attribute (.Name "self" ⟨777, 17, 777, 21⟩) "state" ⟨777, 17, 777, 27⟩) [.In] [(.Tuple [(.Constant (.str "a") 0 ⟨777, 32, 777, 35⟩), (.Constant (.str "c") 0 ⟨777, 37, 777, 40⟩)] 0 ⟨777, 31, 777, 41⟩)] ⟨777, 17, 777, 41⟩) [(.If (.UnaryOp .Not (.Name "nextchar" ⟨778, 23, 778, 31⟩) ⟨778, 19, 778, 31⟩) [(.Assign [(.Attribute (.Name "self" ⟨779, 20, 779, 24⟩) "state" ⟨779, 20, 779, 30⟩)] (.Constant .none 0 ⟨779, 33, 779, 37⟩) ⟨779, 20, 779, 37⟩), (.Break ⟨780, 20, 780, 25⟩)] [(.If (.Compare (.Name "nextchar" ⟨781, 21, 781, 29⟩) [.In] [(.Attribute (.Name "self" ⟨781, 33, 781, 37⟩) "whitespace" ⟨781, 33, 781, 48⟩)] ⟨781, 21, 781, 48⟩) [(.If (.Compare (.Attribute (.Name "self" ⟨782, 23, 782, 27⟩) "debug" ⟨782, 23, 782, 33⟩) [.GtE] [(.Constant (.int 2) 0 ⟨782, 37, 782, 38⟩)] ⟨782, 23, 782, 38⟩) [(.Expr (.Call (.Name "print" ⟨783, 24, 783, 29⟩) [(.Constant (.str "shlex: I see whitespace in word state") 0 ⟨783, 30, 783, 69⟩)] [] ⟨783, 24, 783, 70⟩) ⟨783, 24, 783, 70⟩)] [] ⟨782, 20, 783, 70⟩), (.Assign [(.Attribute (.Name "self" ⟨784, 20, 784, 24⟩) "state" ⟨784, 20, 784, 30⟩)] (.Constant (.str " ") 0 ⟨784, 33, 784, 36⟩) ⟨784, 20, 784, 36⟩), (.If (.BoolOp .Or [(.Attribute (.Name "self" ⟨785, 23, 785, 27⟩) "token" ⟨785, 23, 785, 33⟩), (.BoolOp .And [(.Attribute (.Name "self" ⟨785, 38, 785, 42⟩) "posix" ⟨785, 38, 785, 48⟩), (.Name "quoted" ⟨785, 53, 785, 59⟩)] ⟨785, 38, 785, 59⟩)] ⟨785, 23, 785, 60⟩) [(.Break ⟨786, 24, 786, 29⟩)] [(.Continue ⟨788, 24, 788, 32⟩)] ⟨785, 20, 788, 32⟩)] [(.If (.Compare (.Name "nextchar" ⟨789, 21, 789, 29⟩) [.In] [(.Attribute (.Name "self" ⟨789, 33, 789, 37⟩) "commenters" ⟨789, 33, 789, 48⟩)] ⟨789, 21, 789, 48⟩) [(.Expr (.Call (.Attribute (.Attribute (.Name "self" ⟨790, 20, 790, 24⟩) "instream" ⟨790, 20, 790, 33⟩) "readline" ⟨790, 20, 790, 42⟩) [] [] ⟨790, 20, 790, 44⟩) ⟨790, 20, 790, 44⟩), (.AugAssign (.Attribute (.Name "self" ⟨791, 20, 791, 24⟩) "lineno" ⟨791, 20, 791, 31⟩) .Add (.Constant (.int 1) 0 ⟨791, 35, 791, 36⟩) ⟨791, 20, 791, 36⟩), (.If (.Attribute (.Name "self" ⟨792, 23, 792, 27⟩) "posix" ⟨792, 23, 792, 33⟩) [(.Assign [(.Attribute (.Name "self" ⟨793, 24, 793, 28⟩) "state" ⟨793, 24, 793, 34⟩)] (.Constant (.str " ") 0 ⟨793, 37, 793, 40⟩) ⟨793, 24, 793, 40⟩), (.If (.BoolOp .Or [(.Attribute (.Name "self" ⟨794, 27, 794, 31⟩) "token" ⟨794, 27, 794, 37⟩), (.BoolOp .And [(.Attribute (.Name "self" ⟨794, 42, 794, 46⟩) "posix" ⟨794, 42, 794, 52⟩), (.Name "quoted" ⟨794, 57, 794, 63⟩)] ⟨794, 42, 794, 63⟩)] ⟨794, 27, 794, 64⟩) [(.Break ⟨795, 28, 795, 33⟩)] [(.Continue ⟨797, 28, 797, 36⟩)] ⟨794, 24, 797, 36⟩)] [] ⟨792, 20, 797, 36⟩)] [(.If (.Compare (.Attribute (.Name "self" ⟨798, 21, 798, 25⟩) "state" ⟨798, 21, 798, 31⟩) [.Eq] [(.Constant (.str "c") 0 ⟨798, 35, 798, 38⟩)] ⟨798, 21, 798, 38⟩) [(.If (.Compare (.Name "nextchar" ⟨799, 23, 799, 31⟩) [.In] [(.Attribute (.Name "self" ⟨799, 35, 799, 39⟩) "punctuation_chars" ⟨799, 35, 799, 57⟩)] ⟨799, 23, 799, 57⟩) [(.AugAssign (.Attribute (.Name "self" ⟨800, 24, 800, 28⟩) "token" ⟨800, 24, 800, 34⟩) .Add (.Name "nextchar" ⟨800, 38, 800, 46⟩) ⟨800, 24, 800, 46⟩)] [(.If (.Compare (.Name "nextchar" ⟨802, 27, 802, 35⟩) [.NotIn] [(.Attribute (.Name "self" ⟨802, 43, 802, 47⟩) "whitespace" ⟨802, 43, 802, 58⟩)] ⟨802, 27, 802, 58⟩) [(.Expr (.Call (.Attribute (.Attribute (.Name "self" ⟨803, 28, 803, 32⟩) "_pushback_chars" ⟨803, 28, 803, 48⟩) "append" ⟨803, 28, 803, 55⟩) [(.Name "nextchar" ⟨803, 56, 803, 64⟩)] [] ⟨803, 28, 803, 65⟩) ⟨803, 28, 803, 65⟩)] [] ⟨802, 24, 803, 65⟩), (.Assign [(.Attribute (.Name "self" ⟨804, 24, 804, 28⟩) "state" ⟨804, 24, 804, 34⟩)] (.Constant (.str " ") 0 ⟨804, 37, 804, 40⟩) ⟨804, 24, 804, 40⟩), (.Break ⟨805, 24, 805, 29⟩)] ⟨799, 20, 805, 29⟩)] [(.If (.BoolOp .And [(.Attribute (.Name "self" ⟨806, 21, 806, 25⟩) "posix" ⟨806, 21, 806, 31⟩), (.Compare (.Name "nextchar" ⟨806, 36, 806, 44⟩) [.In] [(.Attribute (.Name "self" ⟨806, 48, 806, 52⟩) "quotes" ⟨806, 48, 806, 59⟩)] ⟨806, 36, 806, 59⟩)] ⟨806, 21, 806, 59⟩) [(.Assign [(.Attribute (.Name "self" ⟨807, 20, 807, 24⟩) "state" ⟨807, 20, 807, 30⟩)] (.Name "nextchar" ⟨807, 33, 807, 41⟩) ⟨807, 20, 807, 41⟩)] [(.If (.BoolOp .And [(.Attribute (.Name "self" ⟨808, 21, 808, 25⟩) "posix" ⟨808, 21, 808, 31⟩), (.Compare (.Name "nextchar" ⟨808, 36, 808, 44⟩) [.In] [(.Attribute (.Name "self" ⟨808, 48, 808, 52⟩) "escape" ⟨808, 48, 808, 59⟩)] ⟨808, 36, 808, 59⟩)] ⟨808, 21, 808, 59⟩) [(.Assign [(.Name "escapedstate" ⟨809, 20, 809, 32⟩)] (.Constant (.str "a") 0 ⟨809, 35, 809, 38⟩) ⟨809, 20, 809, 38⟩), (.Assign [(.Attribute (.Name "self" ⟨810, 20, 810, 24⟩) "state" ⟨810, 20, 810, 30⟩)] (.Name "nextchar" ⟨810, 33, 810, 41⟩) ⟨810, 20, 810, 41⟩)] [(.If (.BoolOp .Or [(.Compare (.Name "nextchar" ⟨811, 21, 811, 29⟩) [.In] [(.Attribute (.Name "self" ⟨811, 33, 811, 37⟩) "wordchars" ⟨811, 33, 811, 47⟩)] ⟨811, 21, 811, 47⟩), (.Compare (.Name "nextchar" ⟨811, 51, 811, 59⟩) [.In] [(.Attribute (.Name "self" ⟨811, 63, 811, 67⟩) "quotes" ⟨811, 63, 811, 74⟩)] ⟨811, 51, 811, 74⟩), (.BoolOp .And [(.Attribute (.Name "self" ⟨811, 79, 811, 83⟩) "whitespace_split" ⟨811, 79, 811, 100⟩), (.Compare (.Name "nextchar" ⟨811, 105, 811, 113⟩) [.NotIn] [(.Attribute (.Name "self" ⟨811, 121, 811, 125⟩) "punctuation_chars" ⟨811, 121, 811, 143⟩)] ⟨811, 105, 811, 143⟩)] ⟨811, 79, 811, 143⟩)] ⟨811, 21, 811, 144⟩) [(.AugAssign (.Attribute (.Name "self" ⟨812, 20, 812, 24⟩) "token" ⟨812, 20, 812, 30⟩) .Add (.Name "nextchar" ⟨812, 34, 812, 42⟩) ⟨812, 20, 812, 42⟩)] [(.If (.Attribute (.Name "self" ⟨814, 23, 814, 27⟩) "punctuation_chars" ⟨814, 23, 814, 45⟩) [(.Expr (.Call (.Attribute (.Attribute (.Name "self" ⟨815, 24, 815, 28⟩) "_pushback_chars" ⟨815, 24, 815, 44⟩) "append" ⟨815, 24, 815, 51⟩) [(.Name "nextchar" ⟨815, 52, 815, 60⟩)] [] ⟨815, 24, 815, 61⟩) ⟨815, 24, 815, 61⟩)] [(.Expr (.Call (.Attribute (.Attribute (.Name "self" ⟨817, 24, 817, 28⟩) "pushback" ⟨817, 24, 817, 37⟩) "appendleft" ⟨817, 24, 817, 48⟩) [(.Name "nextchar" ⟨817, 49, 817, 57⟩)] [] ⟨817, 24, 817, 58⟩) ⟨817, 24, 817, 58⟩)] ⟨814, 20, 817, 58⟩), (.If (.Compare (.Attribute (.Name "self" ⟨818, 23, 818, 27⟩) "debug" ⟨818, 23, 818, 33⟩) [.GtE] [(.Constant (.int 2) 0 ⟨818, 37, 818, 38⟩)] ⟨818, 23, 818, 38⟩) [(.Expr (.Call (.Name "print" ⟨819, 24, 819, 29⟩) [(.Constant (.str "shlex: I see punctuation in word state") 0 ⟨819, 30, 819, 70⟩)] [] ⟨819, 24, 819, 71⟩) ⟨819, 24, 819, 71⟩)] [] ⟨818, 20, 819, 71⟩), (.Assign [(.Attribute (.Name "self" ⟨820, 20, 820, 24⟩) "state" ⟨820, 20, 820, 30⟩)] (.Constant (.str " ") 0 ⟨820, 33, 820, 36⟩) ⟨820, 20, 820, 36⟩), (.If (.BoolOp .Or [(.Attribute (.Name "self" ⟨821, 23, 821, 27⟩) "token" ⟨821, 23, 821, 33⟩), (.BoolOp .And [(.Attribute (.Name "self" ⟨821, 38, 821, 42⟩) "posix" ⟨821, 38, 821, 48⟩), (.Name "quoted" ⟨821, 53, 821, 59⟩)] ⟨821, 38, 821, 59⟩)] ⟨821, 23, 821, 60⟩) [(.Break ⟨822, 24, 822, 29⟩)] [(.Continue ⟨824, 24, 824, 32⟩)] ⟨821, 20, 824, 32⟩)] ⟨811, 16, 824, 32⟩)] ⟨808, 16, 824, 32⟩)] ⟨806, 16, 824, 32⟩)] ⟨798, 16, 824, 32⟩)] ⟨789, 16, 824, 32⟩)] ⟨781, 16, 824, 32⟩)] ⟨778, 16, 824, 32⟩)] [] ⟨777, 12, 824, 32⟩)] ⟨768, 12, 824, 32⟩)] ⟨750, 12, 824, 32⟩)] ⟨714, 12, 824, 32⟩)] ⟨711, 12, 824, 32⟩)] [] ⟨702, 8, 824, 32⟩), (.Assign [(.Name "result" ⟨825, 8, 825, 14⟩)] (.Attribute (.Name "self" ⟨825, 17, 825, 21⟩) "token" ⟨825, 17, 825, 27⟩) ⟨825, 8, 825, 27⟩), (.Assign [(.Attribute (.Name "self" ⟨826, 8, 826, 12⟩) "token" ⟨826, 8, 826, 18⟩)] (.Constant (.str "") 0 ⟨826, 21, 826, 23⟩) ⟨826, 8, 826, 23⟩), (.If (.BoolOp .And [(.Attribute (.Name "self" ⟨827, 11, 827, 15⟩) "posix" ⟨827, 11, 827, 21⟩), (.UnaryOp .Not (.Name "quoted" ⟨827, 31, 827, 37⟩) ⟨827, 27, 827, 37⟩), (.Compare (.Name "result" ⟨827, 44, 827, 50⟩) [.Eq] [(.Constant (.str "") 0 ⟨827, 54, 827, 56⟩)] ⟨827, 44, 827, 56⟩)] ⟨827, 11, 827, 57⟩) [(.Assign [(.Name "result" ⟨828, 12, 828, 18⟩)] (.Constant .none 0 ⟨828, 21, 828, 25⟩) ⟨828, 12, 828, 25⟩)] [] ⟨827, 8, 828, 25⟩), (.If (.Compare (.Attribute (.Name "self" ⟨829, 11, 829, 15⟩) "debug" ⟨829, 11, 829, 21⟩) [.Gt] [(.Constant (.int 1) 0 ⟨829, 24, 829, 25⟩)] ⟨829, 11, 829, 25⟩) [(.If (.Name "result" ⟨830, 15, 830, 21⟩) [(.Expr (.Call (.Name "print" ⟨831, 16, 831, 21⟩) [(.BinOp (.Constant (.str "shlex: raw token=") 0 ⟨831, 22, 831, 41⟩) .Add (.Call (.Name "repr" ⟨831, 44, 831, 48⟩) [(.Name "result" ⟨831, 49, 831, 55⟩)] [] ⟨831, 44, 831, 56⟩) ⟨831, 22, 831, 56⟩)] [] ⟨831, 16, 831, 57⟩) ⟨831, 16, 831, 57⟩)] [(.Expr (.Call (.Name "print" ⟨833, 16, 833, 21⟩) [(.Constant (.str "shlex: raw token=EOF") 0 ⟨833, 22, 833, 44⟩)] [] ⟨833, 16, 833, 45⟩) ⟨833, 16, 833, 45⟩)] ⟨830, 12, 833, 45⟩)] [] ⟨829, 8, 833, 45⟩), (.Return (some (.Name "result" ⟨834, 15, 834, 21⟩)) ⟨834, 8, 834, 21⟩)]), ⟨.function, [("self", .local), ("quoted", .local), ("escapedstate", .local), ("nextchar", .local), ("result", .local), ("print", .globalImplicit), ("ValueError", .globalImplicit), ("repr", .globalImplicit)], false, false, []⟩, 3, [], .none, .none, .none, (.str "cpy313.shlex" 1166), none, (.ref 802), .none, 0⟩), #[]⟩) :: (nat_lit 804, ⟨(.type "tuple"), none, (.seq #[] 0), #[]⟩) :: (nat_lit 806, ⟨(.type "tuple"), none, (.seq (List.toArray [(.str "self" 1250), (.str "newfile" 1251)]) 0), #[]⟩) :: (nat_lit 807, ⟨(.type "tuple"), none, (.seq #[] 0), #[]⟩) :: (nat_lit 809, ⟨(.type "code"), none, (.fields (List.toArray [(.str "sourcehook" 1247), (.str "shlex.sourcehook" 1248), (.str "/claim/cut.py" 1249), (.int 836 0), (.int 2 0), (.int 0 0), (.int 0 0), (.int 3 0), (.ref 804), (.bool true), (.int 273 0), (.ref 805), .none, (.ref 806), (.ref 807), (.ref 808), (.int 1252 0), (.int 836 0), (.str "/claim/cut.py" 1253)])), #[]⟩) :: (nat_lit 810, ⟨(.type "function"), none, (.func ⟨"sourcehook", "shlex.sourcehook", (fA (nS 41 7)), (fB (nS 41 7)), (fS (nS 41 7)), 3, [], .none, .none, .none, (.str "cpy313.shlex" 1166), none, (.ref 809), .none, 0⟩), #[]⟩) :: (nat_lit 811, ⟨(.type "tuple"), none, (.seq (List.toArray [.none, .none]) 0), #[]⟩) :: (nat_lit 812, ⟨(.type "tuple"), none, (.seq #[] 0), #[]⟩) :: (nat_lit 814, ⟨(.type "tuple"), none, (.seq (List.toArray [(.str "self" 1258), (.str "infile" 1259), (.str "lineno" 1260)]) 0), #[]⟩) :: (nat_lit 815, ⟨(.type "tuple"), none, (.seq #[] 0), #[]⟩) :: (nat_lit 817, ⟨(.type "code"), none, (.fields (List.toArray [(.str "error_leader" 1255), (.str "shlex.error_leader" 1256), (.str "/claim/cut.py" 1257), (.int 843 0), (.int 3 0), (.int 0 0), (.int 0 0), (.int 3 0), (.ref 812), (.bool true), (.int 273 0), (.ref 813), .none, (.ref 814), (.ref 815), (.ref 816), (.int 1261 0), (.int 843 0), (.str "/claim/cut.py" 1262)])), #[]⟩) :: (nat_lit 818, ⟨(.type "function"), none, (.func ⟨"error_leader", "shlex.error_leader", (fA (nS 41 8)), (fB (nS 41 8)), (fS (nS 41 8)), 3, [], (.ref 811), .none, .none, (.str "cpy313.shlex" 1166), none, (.ref 817), .none, 0⟩), #[]⟩) :: (nat_lit 819, ⟨(.type "tuple"), none, (.seq #[] 0), #[]⟩) :: (nat_lit 821, ⟨(.type "tuple"), none, (.seq (List.toArray [(.str "self" 1267)]) 0), #[]⟩) :: (nat_lit 822, ⟨(.type "tuple"), none, (.seq #[] 0), #[]⟩) :: (nat_lit 824, ⟨(.type "code"), none, (.fields (List.toArray [(.str "__iter__" 1264), (.str "shlex.__iter__" 1265), (.str "/claim/cut.py" 1266), (.int 846 0), (.int 1 0), (.int 0 0), (.int 0 0), (.int 3 0), (.ref 819), (.bool true), (.int 273 0), (.ref 820), .none, (.ref 821), (.ref 822), (.ref 823), (.int 1268 0), (.int 846 0), (.str "/claim/cut.py" 1269)])), #[]⟩) :: (nat_lit 825, ⟨(.type "function"), none, (.func ⟨"__iter__", "shlex.__iter__", (fA (nS 41 9)), (fB (nS 41 9)), (fS (nS 41 9)), 3, [], .none, .none, .none, (.str "cpy313.shlex" 1166), none, (.ref 824), .none, 0⟩), #[]⟩) :: (nat_lit 826, ⟨(.type "tuple"), none, (.seq #[] 0), #[]⟩) :: (nat_lit 828, ⟨(.type "tuple"), none, (.seq (List.toArray [(.str "self" 1274), (.str "token" 1275)]) 0), #[]⟩) :: (nat_lit 829, ⟨(.type "tuple"), none, (.seq #[] 0), #[]⟩) :: (nat_lit 831, ⟨(.type "code"), none, (.fields (List.toArray [(.str "__next__" 1271), (.str "shlex.__next__" 1272), (.str "/claim/cut.py" 1273), (.int 849 0), (.int 1 0), (.int 0 0), (.int 0 0), (.int 3 0), (.ref 826), (.bool true), (.int 273 0), (.ref 827), .none, (.ref 828), (.ref 829), (.ref 830), (.int 1276 0), (.int 849 0), (.str "/claim/cut.py" 1277)])), #[]⟩) :: (nat_lit 832, ⟨(.type "function"), none, (.func ⟨"__next__", "shlex.__next__", (fA (nS 41 10)), (fB (nS 41 10)), (fS (nS 41 10)), 3, [], .none, .none, .none, (.str "cpy313.shlex" 1166), none, (.ref 831), .none, 0⟩), #[]⟩) :: (nat_lit 833, ⟨(.type "tuple"), none, (.seq (List.toArray [(.str "_punctuation_chars" 1279), (.str "_pushback_chars" 1280), (.str "commenters" 1281), (.str "debug" 1282), (.str "eof" 1283), (.str "escape" 1284), (.str "escapedquotes" 1285), (.str "filestack" 1286), (.str "infile" 1287), (.str "instream" 1288), (.str "lineno" 1289), (.str "posix" 1290), (.str "pushback" 1291), (.str "quotes" 1292), (.str "source" 1293), (.str "state" 1294), (.str "token" 1295), (.str "whitespace" 1296), (.str "whitespace_split" 1297), (.str "wordchars" 1298)]) 0), #[]⟩) :: (nat_lit 834, ⟨(.type "dict"), none, (.dict (List.toArray [⟨(keyHash P "__module__"), (.str "__module__" 1175), (.str "cpy313.shlex" 1166)⟩, ⟨(keyHash P "__firstlineno__"), (.str "__firstlineno__" 1179), (.int 602 1178)⟩, ⟨(keyHash P "__init__"), (.str "__init__" 1191), (.ref 759)⟩, ⟨(keyHash P "punctuation_chars"), (.str "punctuation_chars" 1199), (.ref 767)⟩, ⟨(keyHash P "push_token"), (.str "push_token" 1207), (.ref 774)⟩, ⟨(keyHash P "push_source"), (.str "push_source" 1216), (.ref 782)⟩, ⟨(keyHash P "pop_source"), (.str "pop_source" 1223), (.ref 789)⟩, ⟨(keyHash P "get_token"), (.str "get_token" 1235), (.ref 796)⟩, ⟨(keyHash P "read_token"), (.str "read_token" 1246), (.ref 803)⟩, ⟨(keyHash P "sourcehook"), (.str "sourcehook" 1254), (.ref 810)⟩, ⟨(keyHash P "error_leader"), (.str "error_leader" 1263), (.ref 818)⟩, ⟨(keyHash P "__iter__"), (.str "__iter__" 1270), (.ref 825)⟩, ⟨(keyHash P "__next__"), (.str "__next__" 1278), (.ref 832)⟩, ⟨(keyHash P "__static_attributes__"), (.str "__static_attributes__" 1299), (.ref 833)⟩, ⟨(keyHash P "__dict__"), (.str "__dict__" 1301), (.ref 836)⟩, ⟨(keyHash P "__weakref__"), (.str "__weakref__" 1303), (.ref 837)⟩, ⟨(keyHash P "__doc__"), (.str "__doc__" 1304), .none⟩]) 4), #[]⟩) :: (nat_lit 835, ⟨(.type "type"), none, (.cls ⟨"shlex", [(.type "object")], [(.ref 835), (.type "object")], 834, "shlex", true, [], [], false, none, false⟩), (List.toArray [none, none, (some (.str "shlex" 1168)), (some (.str "shlex" 1176)), (some (.builtin "object.__new__")), (some (.bool true))])⟩) :: (nat_lit 836, ⟨(.type "getset_descriptor"), none, (.fields (List.toArray [(.str "__dict__" 1300), (.ref 835), (.builtin "function.__dict__"), (.builtin "function.__dict__#set")])), #[]⟩) :: (nat_lit 837, ⟨(.type "getset_descriptor"), none, (.fields (List.toArray [(.str "__weakref__" 1302), (.ref 835), (.builtin "ExceptionGroup.__weakref__"), .none])), #[]⟩) :: (nat_lit 840, ⟨(.type "tuple"), none, (.seq #[] 0), #[]⟩) :: (nat_lit 842, ⟨(.type "tuple"), none, (.seq (List.toArray [(.str "line" 1312), (.str "lexer" 1313), (.str "rows" 1314), (.str "token" 1315)]) 0), #[]⟩) :: (nat_lit 843, ⟨(.type "tuple"), none, (.seq #[] 0), #[]⟩) :: (nat_lit 845, ⟨(.type "code"), none, (.fields (List.toArray [(.str "_law_rows" 1309), (.str "_law_rows" 1310), (.str "/claim/cut.py" 1311), (.int 855 0), (.int 1 0), (.int 0 0), (.int 0 0), (.int 3 0), (.ref 840), (.bool true), (.int 273 0), (.ref 841), .none, (.ref 842), (.ref 843), (.ref 844), (.int 1316 0), (.int 855 0), (.str "/claim/cut.py" 1317)])), #[]⟩) :: (nat_lit 846, ⟨(.type "function"), none, (.func ⟨"_law_rows", "_law_rows", ⟨[], [⟨"line", none, ⟨855, 14, 855, 18⟩⟩], none, [], [], none, []⟩, (.stmts [(.Assign [(.Tuple [(.Name "lexer" ⟨856, 4, 856, 9⟩), (.Name "rows" ⟨856, 11, 856, 15⟩)] 0 ⟨856, 4, 856, 15⟩)] (.Tuple [(.Call (.Name "shlex" ⟨856, 19, 856, 24⟩) [(.Name "line" ⟨856, 25, 856, 29⟩)] [⟨(some "punctuation_chars"), (.Constant (.str "BDFHJLNP") 0 ⟨856, 49, 856, 59⟩), ⟨856, 31, 856, 59⟩⟩] ⟨856, 19, 856, 60⟩), (.List [(.List [] ⟨856, 63, 856, 65⟩)] ⟨856, 62, 856, 66⟩)] 0 ⟨856, 18, 856, 67⟩) ⟨856, 4, 856, 67⟩), (.Assign [(.Name "token" ⟨857, 4, 857, 9⟩)] (.Call (.Attribute (.Name "lexer" ⟨857, 12, 857, 17⟩) "get_token" ⟨857, 12, 857, 27⟩) [] [] ⟨857, 12, 857, 29⟩) ⟨857, 4, 857, 29⟩), (.While (.Name "token" ⟨858, 10, 858, 15⟩) [(.If (.Compare (.Name "token" ⟨859, 11, 859, 16⟩) [.Eq] [(.Constant (.str "x") 0 ⟨859, 20, 859, 23⟩)] ⟨859, 11, 859, 23⟩) [(.Expr (.Call (.Attribute (.Name "rows" ⟨860, 12, 860, 16⟩) "append" ⟨860, 12, 860, 23⟩) [(.List [] ⟨860, 24, 860, 26⟩)] [] ⟨860, 12, 860, 27⟩) ⟨860, 12, 860, 27⟩)] [(.Expr (.Call (.Attribute (.Subscript (.Name "rows" ⟨862, 12, 862, 16⟩) (.UnaryOp .USub (.Constant (.int 1) 0 ⟨862, 18, 862, 19⟩) ⟨862, 17, 862, 19⟩) ⟨862, 12, 862, 20⟩) "append" ⟨862, 12, 862, 27⟩) [(.Name "token" ⟨862, 28, 862, 33⟩)] [] ⟨862, 12, 862, 34⟩) ⟨862, 12, 862, 34⟩)] ⟨859, 8, 862, 34⟩), (.Assign [(.Name "token" ⟨863, 8, 863, 13⟩)] (.Call (.Attribute (.Name "lexer" ⟨863, 16, 863, 21⟩) "get_token" ⟨863, 16, 863, 31⟩) [] [] ⟨863, 16, 863, 33⟩) ⟨863, 8, 863, 33⟩)] [] ⟨858, 4, 863, 33⟩), (.Return (some (.Name "rows" ⟨864, 11, 864, 15⟩)) ⟨864, 4, 864, 15⟩)]), ⟨.function, [("line", .local), ("lexer", .local), ("rows", .local), ("token", .local), ("shlex", .globalImplicit)], false, false, []⟩, 3, [], .none, .none, .none, (.str "law_ik0085_01" 1307), none, (.ref 845), .none, 0⟩), #[]⟩) :: (nat_lit 847, ⟨(.type "tuple"), none, (.seq #[] 0), #[]⟩) :: (nat_lit 849, ⟨(.type "tuple"), none, (.seq (List.toArray [(.str "runs" 1322), (.str "names" 1323), (.str "run" 1324)]) 0), #[]⟩) :: (nat_lit 850, ⟨(.type "tuple"), none, (.seq #[] 0), #[]⟩) :: (nat_lit 852, ⟨(.type "code"), none, (.fields (List.toArray [(.str "_law_path" 1319), (.str "_law_path" 1320), (.str "/claim/cut.py" 1321), (.int 865 0), (.int 1 0), (.int 0 0), (.int 0 0), (.int 3 0), (.ref 847), (.bool true), (.int 273 0), (.ref 848), .none, (.ref 849), (.ref 850), (.ref 851), (.int 1325 0), (.int 865 0), (.str "/claim/cut.py" 1326)])), #[]⟩) :: (nat_lit 853, ⟨(.type "function"), none, (.func ⟨"_law_path", "_law_path", ⟨[], [⟨"runs", none, ⟨865, 14, 865, 18⟩⟩], none, [], [], none, []⟩, (.stmts [(.Assign [(.Name "names" ⟨866, 4, 866, 9⟩)] (.List [] ⟨866, 12, 866, 14⟩) ⟨866, 4, 866, 14⟩), (.For (.Name "run" ⟨867, 8, 867, 11⟩) (.Name "runs" ⟨867, 15, 867, 19⟩) [(.AugAssign (.Name "names" ⟨868, 8, 868, 13⟩) .Add (.BinOp (.List [(.IfExp (.Compare (.Subscript (.Name "run" ⟨868, 26, 868, 29⟩) (.Constant (.int 0) 0 ⟨868, 30, 868, 31⟩) ⟨868, 26, 868, 32⟩) [.In] [(.Constant (.str "BDFHJLNP") 0 ⟨868, 36, 868, 46⟩)] ⟨868, 26, 868, 46⟩) (.Constant (.str "ab") 0 ⟨868, 18, 868, 22⟩) (.Constant (.str "a") 0 ⟨868, 52, 868, 55⟩) ⟨868, 18, 868, 55⟩)] ⟨868, 17, 868, 56⟩) .Mult (.Call (.Name "len" ⟨868, 59, 868, 62⟩) [(.Name "run" ⟨868, 63, 868, 66⟩)] [] ⟨868, 59, 868, 67⟩) ⟨868, 17, 868, 67⟩) ⟨868, 8, 868, 67⟩)] [] ⟨867, 4, 868, 67⟩), (.Return (some (.Call (.Name "join_posixpath" ⟨869, 11, 869, 25⟩) [(.Constant (.str "/") 0 ⟨869, 26, 869, 29⟩), (.Starred (.Name "names" ⟨869, 32, 869, 37⟩) ⟨869, 31, 869, 37⟩)] [] ⟨869, 11, 869, 38⟩)) ⟨869, 4, 869, 38⟩)]), ⟨.function, [("runs", .local), ("names", .local), ("run", .local), ("len", .globalImplicit), ("join_posixpath", .globalImplicit)], false, false, []⟩, 3, [], .none, .none, .none, (.str "law_ik0085_01" 1307), none, (.ref 852), .none, 0⟩), #[]⟩) :: (nat_lit 854, ⟨(.type "tuple"), none, (.seq #[] 0), #[]⟩) :: (nat_lit 857, ⟨(.type "code"), none, (.fields (List.toArray [(.str "_law_lengths" 1328), (.str "_law_lengths" 1329), (.str "/claim/cut.py" 1330), (.int 870 0), (.int 1 0), (.int 0 0), (.int 0 0), (.int 3 0), (.ref 854), (.bool true), (.int 273 0), (.ref 855), .none, .none, .none, (.ref 856), (.int 1331 0), (.int 870 0), (.str "/claim/cut.py" 1332)])), #[]⟩) :: (nat_lit 858, ⟨(.type "function"), none, (.func ⟨"_law_lengths", "_law_lengths", ⟨[], [⟨"runs", none, ⟨870, 17, 870, 21⟩⟩], none, [], [], none, []⟩, (.stmts [(.Assign [(.Name "lengths" ⟨871, 4, 871, 11⟩)] (.ListComp (.Call (.Name "len" ⟨871, 15, 871, 18⟩) [(.Name "run" ⟨871, 19, 871, 22⟩)] [] ⟨871, 15, 871, 23⟩) [⟨(.Name "run" ⟨871, 28, 871, 31⟩), (.Name "runs" ⟨871, 35, 871, 39⟩), [], 0⟩] ⟨.function, [(".0", .local), ("run", .local), ("len", .globalImplicit)], false, false, []⟩ ⟨871, 14, 871, 40⟩) ⟨871, 4, 871, 40⟩), (.If (.BoolOp .Or [(.UnaryOp .Not (.Name "runs" ⟨872, 11, 872, 15⟩) ⟨872, 7, 872, 15⟩), (.Compare (.Subscript (.Subscript (.Name "runs" ⟨872, 19, 872, 23⟩) (.Constant (.int 0) 0 ⟨872, 24, 872, 25⟩) ⟨872, 19, 872, 26⟩) (.Constant (.int 0) 0 ⟨872, 27, 872, 28⟩) ⟨872, 19, 872, 29⟩) [.NotIn] [(.Constant (.str "BDFHJLNP") 0 ⟨872, 37, 872, 47⟩)] ⟨872, 19, 872, 47⟩)] ⟨872, 7, 872, 47⟩) [(.Assign [(.Name "lengths" ⟨873, 8, 873, 15⟩)] (.BinOp (.List [(.Constant (.int 0) 0 ⟨873, 19, 873, 20⟩)] ⟨873, 18, 873, 21⟩) .Add (.Name "lengths" ⟨873, 24, 873, 31⟩) ⟨873, 18, 873, 31⟩) ⟨873, 8, 873, 31⟩)] [] ⟨872, 4, 873, 31⟩), (.Return (some (.BinOp (.Subscript (.Name "lengths" ⟨874, 11, 874, 18⟩) (.Slice none (some (.UnaryOp .USub (.Constant (.int 1) 0 ⟨874, 21, 874, 22⟩) ⟨874, 20, 874, 22⟩)) none ⟨874, 19, 874, 22⟩) ⟨874, 11, 874, 23⟩) .Add (.List [(.BinOp (.Subscript (.Name "lengths" ⟨874, 27, 874, 34⟩) (.UnaryOp .USub (.Constant (.int 1) 0 ⟨874, 36, 874, 37⟩) ⟨874, 35, 874, 37⟩) ⟨874, 27, 874, 38⟩) .Add (.Constant (.int 1) 0 ⟨874, 41, 874, 42⟩) ⟨874, 27, 874, 42⟩)] ⟨874, 26, 874, 43⟩) ⟨874, 11, 874, 43⟩)) ⟨874, 4, 874, 43⟩)]), ⟨.function, [("runs", .local), ("lengths", .local)], false, false, [("fast", (.str "runs")), ("fast", (.str "run")), ("fast", (.str "lengths"))]⟩, 3, [], .none, .none, .none, (.str "law_ik0085_01" 1307), none, (.ref 857), .none, 0⟩), #[]⟩) :: (nat_lit 859, ⟨(.type "tuple"), none, (.seq #[] 0), #[]⟩) :: (nat_lit 861, ⟨(.type "tuple"), none, (.seq (List.toArray [(.str "path" 1337), (.str "top" 1338), (.str "bottom" 1339), (.str "name" 1340)]) 0), #[]⟩) :: (nat_lit 862, ⟨(.type "tuple"), none, (.seq #[] 0), #[]⟩) :: (nat_lit 864, ⟨(.type "code"), none, (.fields (List.toArray [(.str "_law_climb" 1334), (.str "_law_climb" 1335), (.str "/claim/cut.py" 1336), (.int 875 0), (.int 1 0), (.int 0 0), (.int 0 0), (.int 3 0), (.ref 859), (.bool true), (.int 273 0), (.ref 860), .none, (.ref 861), (.ref 862), (.ref 863), (.int 1341 0), (.int 875 0), (.str "/claim/cut.py" 1342)])), #[]⟩) :: (nat_lit 865, ⟨(.type "function"), none, (.func ⟨"_law_climb", "_law_climb", ⟨[], [⟨"path", none, ⟨875, 15, 875, 19⟩⟩], none, [], [], none, []⟩, (.stmts [(.Assign [(.Tuple [(.Name "top" ⟨876, 4, 876, 7⟩), (.Name "bottom" ⟨876, 9, 876, 15⟩)] 0 ⟨876, 4, 876, 15⟩)] (.Tuple [(.Constant (.int 1) 0 ⟨876, 19, 876, 20⟩), (.Constant (.int 1) 0 ⟨876, 22, 876, 23⟩)] 0 ⟨876, 18, 876, 24⟩) ⟨876, 4, 876, 24⟩), (.While (.Compare (.Name "path" ⟨877, 10, 877, 14⟩) [.NotEq] [(.Constant (.str "/") 0 ⟨877, 18, 877, 21⟩)] ⟨877, 10, 877, 21⟩) [(.Assign [(.Tuple [(.Name "path" ⟨878, 8, 878, 12⟩), (.Name "name" ⟨878, 14, 878, 18⟩)] 0 ⟨878, 8, 878, 18⟩)] (.Call (.Name "split" ⟨878, 21, 878, 26⟩) [(.Name "path" ⟨878, 27, 878, 31⟩)] [] ⟨878, 21, 878, 32⟩) ⟨878, 8, 878, 32⟩), (.If (.Compare (.Name "name" ⟨879, 11, 879, 15⟩) [.Eq] [(.Constant (.str "ab") 0 ⟨879, 19, 879, 23⟩)] ⟨879, 11, 879, 23⟩) [(.AugAssign (.Name "top" ⟨880, 12, 880, 15⟩) .Add (.Name "bottom" ⟨880, 19, 880, 25⟩) ⟨880, 12, 880, 25⟩)] [(.AugAssign (.Name "bottom" ⟨882, 12, 882, 18⟩) .Add (.Name "top" ⟨882, 22, 882, 25⟩) ⟨882, 12, 882, 25⟩)] ⟨879, 8, 882, 25⟩)] [] ⟨877, 4, 882, 25⟩), (.Return (some (.Tuple [(.Name "top" ⟨883, 12, 883, 15⟩), (.Name "bottom" ⟨883, 17, 883, 23⟩)] 0 ⟨883, 11, 883, 24⟩)) ⟨883, 4, 883, 24⟩)]), ⟨.function, [("path", .local), ("top", .local), ("bottom", .local), ("name", .local), ("split", .globalImplicit)], false, false, []⟩, 3, [], .none, .none, .none, (.str "law_ik0085_01" 1307), none, (.ref 864), .none, 0⟩), #[]⟩) :: (nat_lit 866, ⟨(.type "tuple"), none, (.seq #[] 0), #[]⟩) :: (nat_lit 868, ⟨(.type "tuple"), none, (.seq (List.toArray [(.str "number" 1347), (.str "figures" 1348), (.str "top" 1349), (.str "bottom" 1350), (.str "over" 1351), (.str "under" 1352), (.str "figure" 1353)]) 0), #[]⟩) :: (nat_lit 869, ⟨(.type "tuple"), none, (.seq #[] 0), #[]⟩) :: (nat_lit 871, ⟨(.type "code"), none, (.fields (List.toArray [(.str "_law_fraction" 1344), (.str "_law_fraction" 1345), (.str "/claim/cut.py" 1346), (.int 884 0), (.int 1 0), (.int 0 0), (.int 0 0), (.int 3 0), (.ref 866), (.bool true), (.int 273 0), (.ref 867), .none, (.ref 868), (.ref 869), (.ref 870), (.int 1354 0), (.int 884 0), (.str "/claim/cut.py" 1355)])), #[]⟩) :: (nat_lit 872, ⟨(.type "function"), none, (.func ⟨"_law_fraction", "_law_fraction", ⟨[], [⟨"number", none, ⟨884, 18, 884, 24⟩⟩], none, [], [], none, []⟩, (.stmts [(.Assign [(.Name "figures" ⟨885, 4, 885, 11⟩)] (.List [] ⟨885, 14, 885, 16⟩) ⟨885, 4, 885, 16⟩), (.While (.Name "number" ⟨886, 10, 886, 16⟩) [(.Assign [(.Name "figures" ⟨887, 8, 887, 15⟩)] (.BinOp (.List [(.BinOp (.Name "number" ⟨887, 19, 887, 25⟩) .Mod (.Constant (.int 16) 0 ⟨887, 28, 887, 30⟩) ⟨887, 19, 887, 30⟩)] ⟨887, 18, 887, 31⟩) .Add (.Name "figures" ⟨887, 34, 887, 41⟩) ⟨887, 18, 887, 41⟩) ⟨887, 8, 887, 41⟩), (.AugAssign (.Name "number" ⟨888, 8, 888, 14⟩) .FloorDiv (.Constant (.int 16) 0 ⟨888, 19, 888, 21⟩) ⟨888, 8, 888, 21⟩)] [] ⟨886, 4, 888, 21⟩), (.Assign [(.Tuple [(.Name "top" ⟨889, 4, 889, 7⟩), (.Name "bottom" ⟨889, 9, 889, 15⟩), (.Name "over" ⟨889, 17, 889, 21⟩), (.Name "under" ⟨889, 23, 889, 28⟩)] 0 ⟨889, 4, 889, 28⟩)] (.Tuple [(.Constant (.int 0) 0 ⟨889, 32, 889, 33⟩), (.Constant (.int 1) 0 ⟨889, 35, 889, 36⟩), (.Constant (.int 1) 0 ⟨889, 38, 889, 39⟩), (.Constant (.int 0) 0 ⟨889, 41, 889, 42⟩)] 0 ⟨889, 31, 889, 43⟩) ⟨889, 4, 889, 43⟩), (.For (.Name "figure" ⟨890, 8, 890, 14⟩) (.Name "figures" ⟨890, 18, 890, 25⟩) [(.If (.BinOp (.Name "figure" ⟨891, 11, 891, 17⟩) .Mod (.Constant (.int 2) 0 ⟨891, 20, 891, 21⟩) ⟨891, 11, 891, 21⟩) [(.Assign [(.Tuple [(.Name "top" ⟨892, 12, 892, 15⟩), (.Name "bottom" ⟨892, 17, 892, 23⟩)] 0 ⟨892, 12, 892, 23⟩)] (.Tuple [(.BinOp (.Name "top" ⟨892, 27, 892, 30⟩) .Add (.Name "over" ⟨892, 33, 892, 37⟩) ⟨892, 27, 892, 37⟩), (.BinOp (.Name "bottom" ⟨892, 39, 892, 45⟩) .Add (.Name "under" ⟨892, 48, 892, 53⟩) ⟨892, 39, 892, 53⟩)] 0 ⟨892, 26, 892, 54⟩) ⟨892, 12, 892, 54⟩)] [(.Assign [(.Tuple [(.Name "over" ⟨894, 12, 894, 16⟩), (.Name "under" ⟨894, 18, 894, 23⟩)] 0 ⟨894, 12, 894, 23⟩)] (.Tuple [(.BinOp (.Name "top" ⟨894, 27, 894, 30⟩) .Add (.Name "over" ⟨894, 33, 894, 37⟩) ⟨894, 27, 894, 37⟩), (.BinOp (.Name "bottom" ⟨894, 39, 894, 45⟩) .Add (.Name "under" ⟨894, 48, 894, 53⟩) ⟨894, 39, 894, 53⟩)] 0 ⟨894, 26, 894, 54⟩) ⟨894, 12, 894, 54⟩)] ⟨891, 8, 894, 54⟩)] [] ⟨890, 4, 894, 54⟩), (.Return (some (.Tuple [(.BinOp (.Name "top" ⟨895, 12, 895, 15⟩) .Add (.Name "over" ⟨895, 18, 895, 22⟩) ⟨895, 12, 895, 22⟩), (.BinOp (.Name "bottom" ⟨895, 24, 895, 30⟩) .Add (.Name "under" ⟨895, 33, 895, 38⟩) ⟨895, 24, 895, 38⟩)] 0 ⟨895, 11, 895, 39⟩)) ⟨895, 4, 895, 39⟩)]), ⟨.function, [("number", .local), ("figures", .local), ("top", .local), ("bottom", .local), ("over", .local), ("under", .local), ("figure", .local)], false, false, []⟩, 3, [], .none, .none, .none, (.str "law_ik0085_01" 1307), none, (.ref 871), .none, 0⟩), #[]⟩) :: (nat_lit 873, ⟨(.type "tuple"), none, (.seq #[] 0), #[]⟩) :: (nat_lit 875, ⟨(.type "tuple"), none, (.seq (List.toArray [(.str "top" 1360), (.str "bottom" 1361), (.str "quotients" 1362)]) 0), #[]⟩) :: (nat_lit 876, ⟨(.type "tuple"), none, (.seq #[] 0), #[]⟩) :: (nat_lit 878, ⟨(.type "code"), none, (.fields (List.toArray [(.str "_law_quotients" 1357), (.str "_law_quotients" 1358), (.str "/claim/cut.py" 1359), (.int 896 0), (.int 2 0), (.int 0 0), (.int 0 0), (.int 3 0), (.ref 873), (.bool true), (.int 273 0), (.ref 874), .none, (.ref 875), (.ref 876), (.ref 877), (.int 1363 0), (.int 896 0), (.str "/claim/cut.py" 1364)])), #[]⟩) :: (nat_lit 879, ⟨(.type "function"), none, (.func ⟨"_law_quotients", "_law_quotients", ⟨[], [⟨"top", none, ⟨896, 19, 896, 22⟩⟩, ⟨"bottom", none, ⟨896, 24, 896, 30⟩⟩], none, [], [], none, []⟩, (.stmts [(.Assign [(.Name "quotients" ⟨897, 4, 897, 13⟩)] (.List [] ⟨897, 16, 897, 18⟩) ⟨897, 4, 897, 18⟩), (.While (.Name "bottom" ⟨898, 10, 898, 16⟩) [(.Expr (.Call (.Attribute (.Name "quotients" ⟨899, 8, 899, 17⟩) "append" ⟨899, 8, 899, 24⟩) [(.BinOp (.Name "top" ⟨899, 25, 899, 28⟩) .FloorDiv (.Name "bottom" ⟨899, 32, 899, 38⟩) ⟨899, 25, 899, 38⟩)] [] ⟨899, 8, 899, 39⟩) ⟨899, 8, 899, 39⟩), (.Assign [(.Tuple [(.Name "top" ⟨900, 8, 900, 11⟩), (.Name "bottom" ⟨900, 13, 900, 19⟩)] 0 ⟨900, 8, 900, 19⟩)] (.Tuple [(.Name "bottom" ⟨900, 23, 900, 29⟩), (.BinOp (.Name "top" ⟨900, 31, 900, 34⟩) .Mod (.Name "bottom" ⟨900, 37, 900, 43⟩) ⟨900, 31, 900, 43⟩)] 0 ⟨900, 22, 900, 44⟩) ⟨900, 8, 900, 44⟩)] [] ⟨898, 4, 900, 44⟩), (.Return (some (.Name "quotients" ⟨901, 11, 901, 20⟩)) ⟨901, 4, 901, 20⟩)]), ⟨.function, [("top", .local), ("bottom", .local), ("quotients", .local)], false, false, []⟩, 3, [], .none, .none, .none, (.str "law_ik0085_01" 1307), none, (.ref 878), .none, 0⟩), #[]⟩) :: (nat_lit 880, ⟨(.type "tuple"), none, (.seq #[] 0), #[]⟩) :: (nat_lit 882, ⟨(.type "tuple"), none, (.seq (List.toArray [(.str "first" 1369), (.str "second" 1370), (.str "low" 1371), (.str "high" 1372), (.str "bottom" 1373)]) 0), #[]⟩) :: (nat_lit 883, ⟨(.type "tuple"), none, (.seq #[] 0), #[]⟩) :: (nat_lit 885, ⟨(.type "code"), none, (.fields (List.toArray [(.str "_law_simplest" 1366), (.str "_law_simplest" 1367), (.str "/claim/cut.py" 1368), (.int 902 0), (.int 2 0), (.int 0 0), (.int 0 0), (.int 3 0), (.ref 880), (.bool true), (.int 273 0), (.ref 881), .none, (.ref 882), (.ref 883), (.ref 884), (.int 1374 0), (.int 902 0), (.str "/claim/cut.py" 1375)])), #[]⟩) :: (nat_lit 886, ⟨(.type "function"), none, (.func ⟨"_law_simplest", "_law_simplest", ⟨[], [⟨"first", none, ⟨902, 18, 902, 23⟩⟩, ⟨"second", none, ⟨902, 25, 902, 31⟩⟩], none, [], [], none, []⟩, (.stmts [(.Assign [(.Tuple [(.Name "low" ⟨903, 4, 903, 7⟩), (.Name "high" ⟨903, 9, 903, 13⟩)] 0 ⟨903, 4, 903, 13⟩)] (.Tuple [(.Name "first" ⟨903, 17, 903, 22⟩), (.Name "second" ⟨903, 24, 903, 30⟩)] 0 ⟨903, 16, 903, 31⟩) ⟨903, 4, 903, 31⟩), (.If (.Compare (.BinOp (.Subscript (.Name "first" ⟨904, 7, 904, 12⟩) (.Constant (.int 0) 0 ⟨904, 13, 904, 14⟩) ⟨904, 7, 904, 15⟩) .Mult (.Subscript (.Name "second" ⟨904, 18, 904, 24⟩) (.Constant (.int 1) 0 ⟨904, 25, 904, 26⟩) ⟨904, 18, 904, 27⟩) ⟨904, 7, 904, 27⟩) [.Gt] [(.BinOp (.Subscript (.Name "second" ⟨904, 30, 904, 36⟩) (.Constant (.int 0) 0 ⟨904, 37, 904, 38⟩) ⟨904, 30, 904, 39⟩) .Mult (.Subscript (.Name "first" ⟨904, 42, 904, 47⟩) (.Constant (.int 1) 0 ⟨904, 48, 904, 49⟩) ⟨904, 42, 904, 50⟩) ⟨904, 30, 904, 50⟩)] ⟨904, 7, 904, 50⟩) [(.Assign [(.Tuple [(.Name "low" ⟨905, 8, 905, 11⟩), (.Name "high" ⟨905, 13, 905, 17⟩)] 0 ⟨905, 8, 905, 17⟩)] (.Tuple [(.Name "second" ⟨905, 21, 905, 27⟩), (.Name "first" ⟨905, 29, 905, 34⟩)] 0 ⟨905, 20, 905, 35⟩) ⟨905, 8, 905, 35⟩)] [] ⟨904, 4, 905, 35⟩), (.Assign [(.Name "bottom" ⟨906, 4, 906, 10⟩)] (.Constant (.int 1) 0 ⟨906, 13, 906, 14⟩) ⟨906, 4, 906, 14⟩), (.While (.Compare (.BinOp (.UnaryOp .USub (.BinOp (.BinOp (.UnaryOp .USub (.Subscript (.Name "low" ⟨907, 13, 907, 16⟩) (.Constant (.int 0) 0 ⟨907, 17, 907, 18⟩) ⟨907, 13, 907, 19⟩) ⟨907, 12, 907, 19⟩) .Mult (.Name "bottom" ⟨907, 22, 907, 28⟩) ⟨907, 12, 907, 28⟩) .FloorDiv (.Subscript (.Name "low" ⟨907, 32, 907, 35⟩) (.Constant (.int 1) 0 ⟨907, 36, 907, 37⟩) ⟨907, 32, 907, 38⟩) ⟨907, 12, 907, 38⟩) ⟨907, 10, 907, 39⟩) .Mult (.Subscript (.Name "high" ⟨907, 42, 907, 46⟩) (.Constant (.int 1) 0 ⟨907, 47, 907, 48⟩) ⟨907, 42, 907, 49⟩) ⟨907, 10, 907, 49⟩) [.Gt] [(.BinOp (.Subscript (.Name "high" ⟨907, 52, 907, 56⟩) (.Constant (.int 0) 0 ⟨907, 57, 907, 58⟩) ⟨907, 52, 907, 59⟩) .Mult (.Name "bottom" ⟨907, 62, 907, 68⟩) ⟨907, 52, 907, 68⟩)] ⟨907, 10, 907, 68⟩) [(.AugAssign (.Name "bottom" ⟨908, 8, 908, 14⟩) .Add (.Constant (.int 1) 0 ⟨908, 18, 908, 19⟩) ⟨908, 8, 908, 19⟩)] [] ⟨907, 4, 908, 19⟩), (.Return (some (.Tuple [(.UnaryOp .USub (.BinOp (.BinOp (.UnaryOp .USub (.Subscript (.Name "low" ⟨909, 15, 909, 18⟩) (.Constant (.int 0) 0 ⟨909, 19, 909, 20⟩) ⟨909, 15, 909, 21⟩) ⟨909, 14, 909, 21⟩) .Mult (.Name "bottom" ⟨909, 24, 909, 30⟩) ⟨909, 14, 909, 30⟩) .FloorDiv (.Subscript (.Name "low" ⟨909, 34, 909, 37⟩) (.Constant (.int 1) 0 ⟨909, 38, 909, 39⟩) ⟨909, 34, 909, 40⟩) ⟨909, 14, 909, 40⟩) ⟨909, 12, 909, 41⟩), (.Name "bottom" ⟨909, 43, 909, 49⟩)] 0 ⟨909, 11, 909, 50⟩)) ⟨909, 4, 909, 50⟩)]), ⟨.function, [("first", .local), ("second", .local), ("low", .local), ("high", .local), ("bottom", .local)], false, false, []⟩, 3, [], .none, .none, .none, (.str "law_ik0085_01" 1307), none, (.ref 885), .none, 0⟩), #[]⟩) :: (nat_lit 887, ⟨(.type "tuple"), none, (.seq #[] 0), #[]⟩) :: (nat_lit 890, ⟨(.type "code"), none, (.fields (List.toArray [(.str "law" 1377), (.str "law" 1378), (.str "/claim/cut.py" 1379), (.int 910 0), (.int 1 0), (.int 0 0), (.int 0 0), (.int 3 0), (.ref 887), (.bool true), (.int 273 0), (.ref 888), .none, .none, .none, (.ref 889), (.int 1380 0), (.int 910 0), (.str "/claim/cut.py" 1381)])), #[]⟩) :: (nat_lit 891, ⟨(.type "function"), none, (.func ⟨"law", "law", ⟨[], [⟨"script", none, ⟨910, 8, 910, 14⟩⟩], none, [], [], none, []⟩, (.stmts [(.Assign [(.Name "numbers" ⟨911, 4, 911, 11⟩)] (.Subscript (.BinOp (.ListComp (.BinOp (.Call (.Name "int" ⟨911, 16, 911, 19⟩) [(.Name "cell" ⟨911, 20, 911, 24⟩)] [] ⟨911, 16, 911, 25⟩) .Mod (.BinOp (.Constant (.int 10) 0 ⟨911, 28, 911, 30⟩) .Pow (.Constant (.int 8) 0 ⟨911, 34, 911, 35⟩) ⟨911, 28, 911, 35⟩) ⟨911, 16, 911, 35⟩) [⟨(.Name "cell" ⟨911, 40, 911, 44⟩), (.Subscript (.Name "script" ⟨911, 48, 911, 54⟩) (.Slice none (some (.Constant (.int 5) 0 ⟨911, 56, 911, 57⟩)) none ⟨911, 55, 911, 57⟩) ⟨911, 48, 911, 58⟩), [], 0⟩] ⟨.function, [(".0", .local), ("cell", .local), ("int", .globalImplicit)], false, false, []⟩ ⟨911, 15, 911, 59⟩) .Add (.List [(.Constant (.int 4660) 0 ⟨911, 63, 911, 67⟩), (.Constant (.int 4951) 0 ⟨911, 69, 911, 73⟩), (.Constant (.int 8501) 0 ⟨911, 75, 911, 79⟩), (.Constant (.int 4678) 0 ⟨911, 81, 911, 85⟩), (.Constant (.int 18) 0 ⟨911, 87, 911, 89⟩)] ⟨911, 62, 911, 90⟩) ⟨911, 15, 911, 90⟩) (.Slice none (some (.Constant (.int 5) 0 ⟨911, 93, 911, 94⟩)) none ⟨911, 92, 911, 94⟩) ⟨911, 14, 911, 95⟩) ⟨911, 4, 911, 95⟩), (.Assign [(.Name "rows" ⟨912, 4, 912, 8⟩)] (.Call (.Name "_law_rows" ⟨912, 11, 912, 20⟩) [(.Call (.Attribute (.Constant (.str " x ") 0 ⟨912, 21, 912, 26⟩) "join" ⟨912, 21, 912, 31⟩) [(.ListComp (.Call (.Attribute (.Call (.Name "Int2AP" ⟨912, 33, 912, 39⟩) [(.Name "number" ⟨912, 40, 912, 46⟩)] [] ⟨912, 33, 912, 47⟩) "decode" ⟨912, 33, 912, 54⟩) [(.Constant (.str "ascii") 0 ⟨912, 55, 912, 62⟩)] [] ⟨912, 33, 912, 63⟩) [⟨(.Name "number" ⟨912, 68, 912, 74⟩), (.Name "numbers" ⟨912, 78, 912, 85⟩), [], 0⟩] ⟨.function, [(".0", .local), ("number", .local), ("Int2AP", .globalImplicit)], false, false, []⟩ ⟨912, 32, 912, 86⟩)] [] ⟨912, 21, 912, 87⟩)] [] ⟨912, 11, 912, 88⟩) ⟨912, 4, 912, 88⟩), (.If (.Compare (.Call (.Name "len" ⟨913, 7, 913, 10⟩) [(.Name "rows" ⟨913, 11, 913, 15⟩)] [] ⟨913, 7, 913, 16⟩) [.NotEq] [(.Constant (.int 5) 0 ⟨913, 20, 913, 21⟩)] ⟨913, 7, 913, 21⟩) [(.Return (some (.Constant (.bool false) 0 ⟨914, 15, 914, 20⟩)) ⟨914, 8, 914, 20⟩)] [] ⟨913, 4, 914, 20⟩), (.Assign [(.Name "fractions" ⟨915, 4, 915, 13⟩)] (.ListComp (.Call (.Name "_law_fraction" ⟨915, 17, 915, 30⟩) [(.Name "number" ⟨915, 31, 915, 37⟩)] [] ⟨915, 17, 915, 38⟩) [⟨(.Name "number" ⟨915, 43, 915, 49⟩), (.Name "numbers" ⟨915, 53, 915, 60⟩), [], 0⟩] ⟨.function, [(".0", .local), ("number", .local), ("_law_fraction", .globalImplicit)], false, false, []⟩ ⟨915, 16, 915, 61⟩) ⟨915, 4, 915, 61⟩), (.Assign [(.Name "paths" ⟨916, 4, 916, 9⟩)] (.ListComp (.Call (.Name "_law_path" ⟨916, 13, 916, 22⟩) [(.Name "runs" ⟨916, 23, 916, 27⟩)] [] ⟨916, 13, 916, 28⟩) [⟨(.Name "runs" ⟨916, 33, 916, 37⟩), (.Name "rows" ⟨916, 41, 916, 45⟩), [], 0⟩] ⟨.function, [(".0", .local), ("runs", .local), ("_law_path", .globalImplicit)], false, false, []⟩ ⟨916, 12, 916, 46⟩) ⟨916, 4, 916, 46⟩), (.Assign [(.Name "simplest" ⟨917, 4, 917, 12⟩)] (.List [] ⟨917, 15, 917, 17⟩) ⟨917, 4, 917, 17⟩), (.For (.Name "late" ⟨918, 8, 918, 12⟩) (.Call (.Name "range" ⟨918, 16, 918, 21⟩) [(.Constant (.int 5) 0 ⟨918, 22, 918, 23⟩)] [] ⟨918, 16, 918, 24⟩) [(.Assign [(.Tuple [(.Name "top" ⟨919, 8, 919, 11⟩), (.Name "bottom" ⟨919, 13, 919, 19⟩)] 0 ⟨919, 8, 919, 19⟩)] (.Subscript (.Name "fractions" ⟨919, 22, 919, 31⟩) (.Name "late" ⟨919, 32, 919, 36⟩) ⟨919, 22, 919, 37⟩) ⟨919, 8, 919, 37⟩), (.If (.BoolOp .Or [(.Compare (.Call (.Name "_law_lengths" ⟨920, 11, 920, 23⟩) [(.Subscript (.Name "rows" ⟨920, 24, 920, 28⟩) (.Name "late" ⟨920, 29, 920, 33⟩) ⟨920, 24, 920, 34⟩)] [] ⟨920, 11, 920, 35⟩) [.NotEq] [(.Call (.Name "_law_quotients" ⟨920, 39, 920, 53⟩) [(.Name "top" ⟨920, 54, 920, 57⟩), (.Name "bottom" ⟨920, 59, 920, 65⟩)] [] ⟨920, 39, 920, 66⟩)] ⟨920, 11, 920, 66⟩), (.Compare (.Call (.Name "_law_climb" ⟨920, 70, 920, 80⟩) [(.Subscript (.Name "paths" ⟨920, 81, 920, 86⟩) (.Name "late" ⟨920, 87, 920, 91⟩) ⟨920, 81, 920, 92⟩)] [] ⟨920, 70, 920, 93⟩) [.NotEq] [(.Tuple [(.Name "top" ⟨920, 98, 920, 101⟩), (.Name "bottom" ⟨920, 103, 920, 109⟩)] 0 ⟨920, 97, 920, 110⟩)] ⟨920, 70, 920, 110⟩)] ⟨920, 11, 920, 110⟩) [(.Return (some (.Constant (.bool false) 0 ⟨921, 19, 921, 24⟩)) ⟨921, 12, 921, 24⟩)] [] ⟨920, 8, 921, 24⟩), (.For (.Name "early" ⟨922, 12, 922, 17⟩) (.Call (.Name "range" ⟨922, 21, 922, 26⟩) [(.Name "late" ⟨922, 27, 922, 31⟩)] [] ⟨922, 21, 922, 32⟩) [(.Assign [(.Name "shared" ⟨923, 12, 923, 18⟩)] (.Call (.Name "commonpath" ⟨923, 21, 923, 31⟩) [(.List [(.Subscript (.Name "paths" ⟨923, 33, 923, 38⟩) (.Name "early" ⟨923, 39, 923, 44⟩) ⟨923, 33, 923, 45⟩), (.Subscript (.Name "paths" ⟨923, 47, 923, 52⟩) (.Name "late" ⟨923, 53, 923, 57⟩) ⟨923, 47, 923, 58⟩)] ⟨923, 32, 923, 59⟩)] [] ⟨923, 21, 923, 60⟩) ⟨923, 12, 923, 60⟩), (.Assign [(.Tuple [(.Name "top" ⟨924, 12, 924, 15⟩), (.Name "bottom" ⟨924, 17, 924, 23⟩)] 0 ⟨924, 12, 924, 23⟩)] (.Call (.Name "_law_simplest" ⟨924, 26, 924, 39⟩) [(.Subscript (.Name "fractions" ⟨924, 40, 924, 49⟩) (.Name "early" ⟨924, 50, 924, 55⟩) ⟨924, 40, 924, 56⟩), (.Subscript (.Name "fractions" ⟨924, 58, 924, 67⟩) (.Name "late" ⟨924, 68, 924, 72⟩) ⟨924, 58, 924, 73⟩)] [] ⟨924, 26, 924, 74⟩) ⟨924, 12, 924, 74⟩), (.If (.Compare (.Call (.Name "_law_climb" ⟨925, 15, 925, 25⟩) [(.Name "shared" ⟨925, 26, 925, 32⟩)] [] ⟨925, 15, 925, 33⟩) [.NotEq] [(.Tuple [(.Name "top" ⟨925, 38, 925, 41⟩), (.Name "bottom" ⟨925, 43, 925, 49⟩)] 0 ⟨925, 37, 925, 50⟩)] ⟨925, 15, 925, 50⟩) [(.Return (some (.Constant (.bool false) 0 ⟨926, 23, 926, 28⟩)) ⟨926, 16, 926, 28⟩)] [] ⟨925, 12, 926, 28⟩), (.Expr (.Call (.Attribute (.Name "simplest" ⟨927, 12, 927, 20⟩) "append" ⟨927, 12, 927, 27⟩) [(.Tuple [(.Name "bottom" ⟨927, 29, 927, 35⟩), (.Name "top" ⟨927, 37, 927, 40⟩)] 0 ⟨927, 28, 927, 41⟩)] [] ⟨927, 12, 927, 42⟩) ⟨927, 12, 927, 42⟩)] [] ⟨922, 8, 927, 42⟩)] [] ⟨918, 4, 927, 42⟩), (.Assign [(.Tuple [(.Name "bottom" ⟨928, 4, 928, 10⟩), (.Name "top" ⟨928, 12, 928, 15⟩)] 0 ⟨928, 4, 928, 15⟩)] (.Call (.Name "min" ⟨928, 18, 928, 21⟩) [(.Name "simplest" ⟨928, 22, 928, 30⟩)] [] ⟨928, 18, 928, 31⟩) ⟨928, 4, 928, 31⟩), (.Return (some (.Compare (.Call (.Name "_law_climb" ⟨929, 11, 929, 21⟩) [(.Call (.Name "commonpath" ⟨929, 22, 929, 32⟩) [(.Name "paths" ⟨929, 33, 929, 38⟩)] [] ⟨929, 22, 929, 39⟩)] [] ⟨929, 11, 929, 40⟩) [.Eq] [(.Tuple [(.Name "top" ⟨929, 45, 929, 48⟩), (.Name "bottom" ⟨929, 50, 929, 56⟩)] 0 ⟨929, 44, 929, 57⟩)] ⟨929, 11, 929, 57⟩)) ⟨929, 4, 929, 57⟩)]), ⟨.function, [("script", .local), ("numbers", .local), ("rows", .local), ("fractions", .local), ("paths", .local), ("simplest", .local), ("late", .local), ("top", .local), ("bottom", .local), ("early", .local), ("shared", .local), ("_law_rows", .globalImplicit), ("len", .globalImplicit), ("range", .globalImplicit), ("_law_lengths", .globalImplicit), ("_law_quotients", .globalImplicit), ("_law_climb", .globalImplicit), ("commonpath", .globalImplicit), ("_law_simplest", .globalImplicit), ("min", .globalImplicit)], false, false, [("fast", (.str "script")), ("fast", (.str "cell")), ("fast", (.str "numbers")), ("fast", (.str "number")), ("fast", (.str "rows")), ("fast", (.str "fractions")), ("fast", (.str "runs")), ("fast", (.str "paths")), ("fast", (.str "simplest")), ("fast", (.str "late")), ("fast", (.str "top")), ("fast", (.str "bottom")), ("fast", (.str "early")), ("fast", (.str "shared"))]⟩, 3, [], .none, .none, .none, (.str "law_ik0085_01" 1307), none, (.ref 890), .none, 0⟩), #[]⟩) :: []
noncomputable def gO (i : Nat) (P : Params) : Obj := ((hd.heap_39 P)[i]?.map (·.2)).getD default
noncomputable def o_41 (P : Params) : Obj := ⟨(.type "dict"), none, (.dict (List.toArray ((eN P "__name__" 1 (.str "builtins" 160)) :: (eN P "__doc__" 2 (.builtin "builtins.__doc__:str#opaque")) :: (eN P "__package__" 3 (.builtin "builtins.__package__:str#opaque")) :: (eN P "__loader__" 4 (.builtin "builtins.__loader__:shared#opaque")) :: (eN P "__spec__" 5 (.builtin "builtins.__spec__#opaque")) :: (eN P "__build_class__" 6 (.builtin "__build_class__")) :: (eN P "__import__" 7 (.builtin "__import__")) :: (eN P "abs" 8 (.builtin "abs")) :: (eN P "all" 9 (.builtin "all")) :: (eN P "any" 10 (.builtin "any")) :: (eN P "ascii" 11 (.builtin "ascii")) :: (eN P "bin" 12 (.builtin "bin")) :: (eN P "breakpoint" 13 (.builtin "breakpoint")) :: (eN P "callable" 14 (.builtin "callable")) :: (eN P "chr" 15 (.builtin "chr")) :: (eN P "compile" 16 (.builtin "compile")) :: (eN P "delattr" 17 (.builtin "delattr")) :: (eN P "dir" 18 (.builtin "dir")) :: (eN P "divmod" 19 (.builtin "divmod")) :: (eN P "eval" 20 (.builtin "eval")) :: (eN P "exec" 21 (.builtin "exec")) :: (eN P "format" 22 (.builtin "format")) :: (eN P "getattr" 23 (.builtin "getattr")) :: (eN P "globals" 24 (.builtin "globals")) :: (eN P "hasattr" 25 (.builtin "hasattr")) :: (eN P "hash" 26 (.builtin "hash")) :: (eN P "hex" 27 (.builtin "hex")) :: (eN P "id" 28 (.builtin "id")) :: (eN P "input" 29 (.builtin "input")) :: (eN P "isinstance" 30 (.builtin "isinstance")) :: (eN P "issubclass" 31 (.builtin "issubclass")) :: (eN P "iter" 32 (.builtin "iter")) :: (eN P "aiter" 33 (.builtin "aiter")) :: (eN P "len" 34 (.builtin "len")) :: (eN P "locals" 35 (.builtin "locals")) :: (eN P "max" 36 (.builtin "max")) :: (eN P "min" 37 (.builtin "min")) :: (eN P "next" 38 (.builtin "next")) :: (eN P "anext" 39 (.builtin "anext")) :: (eN P "oct" 40 (.builtin "oct")) :: (eN P "ord" 41 (.builtin "ord")) :: (eN P "pow" 42 (.builtin "pow")) :: (eN P "print" 43 (.builtin "print")) :: (eN P "repr" 44 (.builtin "repr")) :: (eN P "round" 45 (.builtin "round")) :: (eN P "setattr" 46 (.builtin "setattr")) :: (eN P "sorted" 47 (.builtin "sorted")) :: (eN P "sum" 48 (.builtin "sum")) :: (eN P "vars" 49 (.builtin "vars")) :: (eN P "None" 50 .none) :: (eN P "Ellipsis" 51 .ellipsis) :: (eN P "NotImplemented" 52 .notImplemented) :: (eN P "False" 53 (.bool false)) :: (eN P "True" 54 (.bool true)) :: (eN P "bool" 55 (.type "bool")) :: (eN P "memoryview" 56 (.type "memoryview")) :: (eN P "bytearray" 57 (.type "bytearray")) :: (eN P "bytes" 58 (.type "bytes")) :: (eN P "classmethod" 59 (.type "classmethod")) :: (eN P "complex" 60 (.type "complex")) :: (eN P "dict" 61 (.type "dict")) :: (eN P "enumerate" 62 (.type "enumerate")) :: (eN P "filter" 63 (.type "filter")) :: (eN P "float" 64 (.type "float")) :: (eN P "frozenset" 65 (.type "frozenset")) :: (eN P "property" 66 (.type "property")) :: (eN P "int" 67 (.type "int")) :: (eN P "list" 68 (.type "list")) :: (eN P "map" 69 (.type "map")) :: (eN P "object" 70 (.type "object")) :: (eN P "range" 71 (.type "range")) :: (eN P "reversed" 72 (.type "reversed")) :: (eN P "set" 73 (.type "set")) :: (eN P "slice" 74 (.type "slice")) :: (eN P "staticmethod" 75 (.type "staticmethod")) :: (eN P "str" 76 (.type "str")) :: (eN P "super" 77 (.type "super")) :: (eN P "tuple" 78 (.type "tuple")) :: (eN P "type" 79 (.type "type")) :: (eN P "zip" 80 (.type "zip")) :: (eN P "__debug__" 81 (.bool true)) :: (eN P "BaseException" 82 (.type "BaseException")) :: (eN P "BaseExceptionGroup" 83 (.type "BaseExceptionGroup")) :: (eN P "Exception" 84 (.type "Exception")) :: (eN P "GeneratorExit" 85 (.type "GeneratorExit")) :: (eN P "KeyboardInterrupt" 86 (.type "KeyboardInterrupt")) :: (eN P "SystemExit" 87 (.type "SystemExit")) :: (eN P "ArithmeticError" 88 (.type "ArithmeticError")) :: (eN P "AssertionError" 89 (.type "AssertionError")) :: (eN P "AttributeError" 90 (.type "AttributeError")) :: (eN P "BufferError" 91 (.type "BufferError")) :: (eN P "EOFError" 92 (.type "EOFError")) :: (eN P "ImportError" 93 (.type "ImportError")) :: (eN P "LookupError" 94 (.type "LookupError")) :: (eN P "MemoryError" 95 (.type "MemoryError")) :: (eN P "NameError" 96 (.type "NameError")) :: (eN P "OSError" 97 (.type "OSError")) :: (eN P "ReferenceError" 98 (.type "ReferenceError")) :: (eN P "RuntimeError" 99 (.type "RuntimeError")) :: (eN P "StopAsyncIteration" 100 (.type "StopAsyncIteration")) :: (eN P "StopIteration" 101 (.type "StopIteration")) :: (eN P "SyntaxError" 102 (.type "SyntaxError")) :: (eN P "SystemError" 103 (.type "SystemError")) :: (eN P "TypeError" 104 (.type "TypeError")) :: (eN P "ValueError" 105 (.type "ValueError")) :: (eN P "Warning" 106 (.type "Warning")) :: (eN P "FloatingPointError" 107 (.type "FloatingPointError")) :: (eN P "OverflowError" 108 (.type "OverflowError")) :: (eN P "ZeroDivisionError" 109 (.type "ZeroDivisionError")) :: (eN P "BytesWarning" 110 (.type "BytesWarning")) :: (eN P "DeprecationWarning" 111 (.type "DeprecationWarning")) :: (eN P "EncodingWarning" 112 (.type "EncodingWarning")) :: (eN P "FutureWarning" 113 (.type "FutureWarning")) :: (eN P "ImportWarning" 114 (.type "ImportWarning")) :: (eN P "PendingDeprecationWarning" 115 (.type "PendingDeprecationWarning")) :: (eN P "ResourceWarning" 116 (.type "ResourceWarning")) :: (eN P "RuntimeWarning" 117 (.type "RuntimeWarning")) :: (eN P "SyntaxWarning" 118 (.type "SyntaxWarning")) :: (eN P "UnicodeWarning" 119 (.type "UnicodeWarning")) :: (eN P "UserWarning" 120 (.type "UserWarning")) :: (eN P "BlockingIOError" 121 (.type "BlockingIOError")) :: (eN P "ChildProcessError" 122 (.type "ChildProcessError")) :: (eN P "ConnectionError" 123 (.type "ConnectionError")) :: (eN P "FileExistsError" 124 (.type "FileExistsError")) :: (eN P "FileNotFoundError" 125 (.type "FileNotFoundError")) :: (eN P "InterruptedError" 126 (.type "InterruptedError")) :: (eN P "IsADirectoryError" 127 (.type "IsADirectoryError")) :: (eN P "NotADirectoryError" 128 (.type "NotADirectoryError")) :: (eN P "PermissionError" 129 (.type "PermissionError")) :: (eN P "ProcessLookupError" 130 (.type "ProcessLookupError")) :: (eN P "TimeoutError" 131 (.type "TimeoutError")) :: (eN P "IndentationError" 132 (.type "IndentationError")) :: (eN P "_IncompleteInputError" 133 (.type "_IncompleteInputError")) :: (eN P "IndexError" 134 (.type "IndexError")) :: (eN P "KeyError" 135 (.type "KeyError")) :: (eN P "ModuleNotFoundError" 136 (.type "ModuleNotFoundError")) :: (eN P "NotImplementedError" 137 (.type "NotImplementedError")) :: (eN P "PythonFinalizationError" 138 (.type "PythonFinalizationError")) :: (eN P "RecursionError" 139 (.type "RecursionError")) :: (eN P "UnboundLocalError" 140 (.type "UnboundLocalError")) :: (eN P "UnicodeError" 141 (.type "UnicodeError")) :: (eN P "BrokenPipeError" 142 (.type "BrokenPipeError")) :: (eN P "ConnectionAbortedError" 143 (.type "ConnectionAbortedError")) :: (eN P "ConnectionRefusedError" 144 (.type "ConnectionRefusedError")) :: (eN P "ConnectionResetError" 145 (.type "ConnectionResetError")) :: (eN P "TabError" 146 (.type "TabError")) :: (eN P "UnicodeDecodeError" 147 (.type "UnicodeDecodeError")) :: (eN P "UnicodeEncodeError" 148 (.type "UnicodeEncodeError")) :: (eN P "UnicodeTranslateError" 149 (.type "UnicodeTranslateError")) :: (eN P "ExceptionGroup" 150 (.type "ExceptionGroup")) :: (eN P "EnvironmentError" 151 (.type "OSError")) :: (eN P "IOError" 152 (.type "OSError")) :: (eN P "open" 153 (.builtin "open")) :: (eN P "quit" 154 (.builtin "builtins.quit#opaque")) :: (eN P "exit" 155 (.builtin "builtins.exit#opaque")) :: (eN P "copyright" 156 (.builtin "builtins.copyright#opaque")) :: (eN P "credits" 157 (.builtin "builtins.credits#opaque")) :: (eN P "license" 158 (.builtin "builtins.license#opaque")) :: (eN P "help" 159 (.builtin "builtins.help#opaque")) :: [])) 159), #[]⟩
noncomputable def o_42 (P : Params) : Obj := ⟨(.type "dict"), none, (.dict (List.toArray [(eN P "builtins" 162 (.ref 4)), (eN P "__main__" 163 (.ref 5)), (eN P "_collections" 246 (.ref 13))]) 3), #[]⟩
noncomputable def o_43 (P : Params) : Obj := ⟨.none, none, (.dict (List.toArray [(eN P "\x69mport.loaded._collections" 185 (.bool true)), (eN P "class._frozen_importlib.BuiltinImporter" 187 (.ref 15)), (eN P "watched.\x69mport" 208 (.ref 19)), (eN P "class._frozen_importlib.ModuleSpec" 218 (.ref 23)), (eN P "sys.modules.booked-epoch" 247 (.int 3 0)), (eN P "sys.modules.landed._collections" 248 (.bool true)), (eN P "\x69mport.later-laid._collections" 263 (.bool true)), (eN P "watched.library" 265 (.ref 28)), (eN P "watched.library-objects" 0 (.str "\x0d" 0)), (eN P "watched.library-deep._collections" 266 (.str "\x04\x00\x00\x0c\x04\x00\x00\x0c\x04\x00\x00\x03\x04\x00\x00\x0c\x08\x04dict\x02" 0))]) 10), #[]⟩
noncomputable def o_44 (P : Params) : Obj := ⟨(.type "dict"), none, (.dict (List.toArray [(eN P "__name__" 165 (.str "__main__" 164)), (eN P "__doc__" 166 .none), (eN P "__package__" 167 .none), (eN P "__loader__" 168 (.builtin "__main__.__loader__#opaque")), (eN P "__spec__" 169 .none), (eN P "__annotations__" 170 (.ref 6)), (eN P "__builtins__" 171 (.ref 4)), (eN P "__file__" 173 (.str "/claim/cut.py" 172)), (eN P "__cached__" 174 .none), (eN P "deque" 272 (.type "collections.deque"))]) 10), #[]⟩
noncomputable def o_45 : Obj := ⟨(.type "module"), (some 0), .plain, #[]⟩
noncomputable def o_46 : Obj := ⟨(.type "module"), (some 3), .plain, #[]⟩
noncomputable def o_47 : Obj := ⟨(.type "dict"), none, (.dict #[] 0), #[]⟩
noncomputable def o_48 : Obj := ⟨(.type "tuple"), none, (.seq #[] 0), #[]⟩
noncomputable def o_49 : Obj := ⟨.none, none, (.fields #[]), #[]⟩
noncomputable def o_50 : Obj := ⟨(.type "code"), none, (.fields (List.toArray [(.str "<module>" 176), (.str "<module>" 177), (.str "/claim/cut.py" 178), (.int 1 0), (.int 0 0), (.int 0 0), (.int 0 0), (.int 0 0), (.ref 7), (.bool false), (.int 175 0), (.ref 8), .none, .none, .none, .none, (.int 179 0), (.int 1 0), (.str "/claim/cut.py" 180)])), #[]⟩
noncomputable def o_51 : Obj := ⟨(.type "frame"), none, .plain, (List.toArray [(some (.ref 9)), (some (.ref 3)), (some (.ref 3)), none, (some (.str "__main__" 164)), none, (some (.ref 0))])⟩
noncomputable def o_52 : Obj := ⟨(.type "tuple"), none, (.seq (List.toArray [(.str "deque" 182)]) 0), #[]⟩
noncomputable def o_53 (P : Params) : Obj := ⟨(.type "dict"), none, (.dict (List.toArray [(eN P "__name__" 250 (.str "_collections" 249)), (eN P "__doc__" 251 (.builtin "off-the-table:_collections.__doc__:shared#opaque")), (eN P "__package__" 253 (.str "" 252)), (eN P "__loader__" 254 (.builtin "off-the-table:_collections.__loader__:shared#opaque")), (eN P "__spec__" 255 (.builtin "off-the-table:_collections.__spec__:shared#opaque")), (eN P "_count_elements" 256 (.builtin "_collections._count_elements")), (eN P "deque" 257 (.type "collections.deque")), (eN P "defaultdict" 258 (.type "collections.defaultdict")), (eN P "_deque_iterator" 259 (.builtin "off-the-table:_collections._deque_iterator:shared#opaque")), (eN P "_deque_reverse_iterator" 260 (.builtin "off-the-table:_collections._deque_reverse_iterator:shared#opaque")), (eN P "_tuplegetter" 261 (.type "collections._tuplegetter")), (eN P "OrderedDict" 262 (.type "collections.OrderedDict"))]) 12), #[]⟩
noncomputable def o_54 : Obj := ⟨(.type "module"), (some 12), .plain, #[]⟩
noncomputable def o_55 (P : Params) : Obj := ⟨(.type "dict"), none, (.dict (List.toArray [(eN P "__module__" 191 (.str "_frozen_importlib" 188)), (eN P "__firstlineno__" 192 (.int 971 189)), (eN P "__doc__" 193 (.builtin "_frozen_importlib.BuiltinImporter.__doc__:str#opaque")), (eN P "_ORIGIN" 194 (.str "built-in" 190)), (eN P "find_spec" 195 (.builtin "_frozen_importlib.BuiltinImporter.find_spec#opaque")), (eN P "create_module" 196 (.builtin "_frozen_importlib.BuiltinImporter.create_module#opaque")), (eN P "exec_module" 197 (.builtin "_frozen_importlib.BuiltinImporter.exec_module#opaque")), (eN P "get_code" 198 (.builtin "_frozen_importlib.BuiltinImporter.get_code#opaque")), (eN P "get_source" 199 (.builtin "_frozen_importlib.BuiltinImporter.get_source#opaque")), (eN P "is_package" 200 (.builtin "_frozen_importlib.BuiltinImporter.is_package#opaque")), (eN P "load_module" 201 (.builtin "_frozen_importlib.BuiltinImporter.load_module#opaque")), (eN P "__static_attributes__" 202 (.ref 16)), (eN P "__dict__" 204 (.ref 17)), (eN P "__weakref__" 206 (.ref 18))]) 14), #[]⟩
noncomputable def o_56 : Obj := ⟨(.type "type"), none, (.cls ⟨"BuiltinImporter", [(.type "object")], [(.ref 15), (.type "object")], 14, "BuiltinImporter", true, [], [], false, none, false⟩), #[]⟩
noncomputable def o_57 : Obj := ⟨(.type "tuple"), none, (.seq #[] 0), #[]⟩
noncomputable def o_58 : Obj := ⟨(.type "getset_descriptor"), none, (.fields (List.toArray [(.str "__dict__" 203), (.ref 15), (.builtin "function.__dict__"), (.builtin "function.__dict__#set")])), #[]⟩
noncomputable def o_59 : Obj := ⟨(.type "getset_descriptor"), none, (.fields (List.toArray [(.str "__weakref__" 205), (.ref 15), (.builtin "ExceptionGroup.__weakref__"), .none])), #[]⟩
noncomputable def o_60 : Obj := ⟨.none, none, (.seq (List.toArray [(.int 14 0), (.str "\x06¿\n__module__\x06¼\x11_frozen_importlib\x06À\x0f__firstlineno__\x04½\x00ϋ\x06Á\x07__doc__\t4_frozen_importlib.BuiltinImporter.__doc__:str#opaque\x06Â\x07_ORIGIN\x06¾\x08built-in\x06Ã\tfind_spec\t2_frozen_importlib.BuiltinImporter.find_spec#opaque\x06Ä\x0dcreate_module\t6_frozen_importlib.BuiltinImporter.create_module#opaque\x06Å\x0bexec_module\t4_frozen_importlib.BuiltinImporter.exec_module#opaque\x06Æ\x08get_code\t1_frozen_importlib.BuiltinImporter.get_code#opaque\x06Ç\nget_source\t3_frozen_importlib.BuiltinImporter.get_source#opaque\x06È\nis_package\t3_frozen_importlib.BuiltinImporter.is_package#opaque\x06É\x0bload_module\t4_frozen_importlib.BuiltinImporter.load_module#opaque\x06Ê\x15__static_attributes__\x04\x00\x00\x10\x06Ì\x08__dict__\x04\x00\x00\x11\x06Î\x0b__weakref__\x04\x00\x00\x12" 0), (.bool true), (.bool true), (.str "" 207), (.int 22 0), (.str "\x06å\n__module__\x06Û\x11_frozen_importlib\x06æ\x0f__firstlineno__\x04Ü\x00Ȳ\x06ç\x07__doc__\t/_frozen_importlib.ModuleSpec.__doc__:str#opaque\x06è\x08__init__\t,_frozen_importlib.ModuleSpec.__init__#opaque\x06é\x08__repr__\t,_frozen_importlib.ModuleSpec.__repr__#opaque\x06ê\x06__eq__\t*_frozen_importlib.ModuleSpec.__eq__#opaque\x06ë\x06cached\t*_frozen_importlib.ModuleSpec.cached#opaque\x06ì\x06parent\t*_frozen_importlib.ModuleSpec.parent#opaque\x06í\x0chas_location\t0_frozen_importlib.ModuleSpec.has_location#opaque\x06î\x15__static_attributes__\x04\x00\x00\x18\x06ð\x08__dict__\x04\x00\x00\x19\x06ò\x0b__weakref__\x04\x00\x00\x1a\x06ó\x08__hash__\x00" 0), (.bool true), (.bool true), (.str "" 244)]) 1), #[]⟩
noncomputable def o_61 : Obj := ⟨(.type "list"), none, (.seq #[] 0), #[]⟩
noncomputable def o_62 (P : Params) : Obj := ⟨(.type "dict"), none, (.dict (List.toArray [(eN P "name" 210 (.str "_collections" 209)), (eN P "loader" 211 (.ref 15)), (eN P "origin" 212 (.str "built-in" 186)), (eN P "loader_state" 213 .none), (eN P "submodule_search_locations" 214 .none), (eN P "_uninitialized_submodules" 215 (.ref 20)), (eN P "_set_fileattr" 216 (.bool false)), (eN P "_cached" 217 .none), (eN P "_initializing" 245 (.bool false))]) 9), #[]⟩
noncomputable def o_63 (P : Params) : Obj := ⟨(.type "dict"), none, (.dict (List.toArray [(eN P "__module__" 229 (.str "_frozen_importlib" 219)), (eN P "__firstlineno__" 230 (.int 562 220)), (eN P "__doc__" 231 (.builtin "_frozen_importlib.ModuleSpec.__doc__:str#opaque")), (eN P "__init__" 232 (.builtin "_frozen_importlib.ModuleSpec.__init__#opaque")), (eN P "__repr__" 233 (.builtin "_frozen_importlib.ModuleSpec.__repr__#opaque")), (eN P "__eq__" 234 (.builtin "_frozen_importlib.ModuleSpec.__eq__#opaque")), (eN P "cached" 235 (.builtin "_frozen_importlib.ModuleSpec.cached#opaque")), (eN P "parent" 236 (.builtin "_frozen_importlib.ModuleSpec.parent#opaque")), (eN P "has_location" 237 (.builtin "_frozen_importlib.ModuleSpec.has_location#opaque")), (eN P "__static_attributes__" 238 (.ref 24)), (eN P "__dict__" 240 (.ref 25)), (eN P "__weakref__" 242 (.ref 26)), (eN P "__hash__" 243 .none)]) 13), #[]⟩
noncomputable def o_64 : Obj := ⟨(.type "type"), none, (.cls ⟨"ModuleSpec", [(.type "object")], [(.ref 23), (.type "object")], 22, "ModuleSpec", true, [], [], false, none, false⟩), #[]⟩
noncomputable def o_65 : Obj := ⟨(.type "tuple"), none, (.seq (List.toArray [(.str "_cached" 221), (.str "_set_fileattr" 222), (.str "_uninitialized_submodules" 223), (.str "loader" 224), (.str "loader_state" 225), (.str "name" 226), (.str "origin" 227), (.str "submodule_search_locations" 228)]) 0), #[]⟩
noncomputable def o_66 : Obj := ⟨(.type "getset_descriptor"), none, (.fields (List.toArray [(.str "__dict__" 239), (.ref 23), (.builtin "function.__dict__"), (.builtin "function.__dict__#set")])), #[]⟩
noncomputable def o_67 : Obj := ⟨(.type "getset_descriptor"), none, (.fields (List.toArray [(.str "__weakref__" 241), (.ref 23), (.builtin "ExceptionGroup.__weakref__"), .none])), #[]⟩
noncomputable def o_68 : Obj := ⟨(.ref 23), (some 21), .plain, #[]⟩
noncomputable def o_69 : Obj := ⟨.none, none, (.seq (List.toArray [(.int 12 0), (.str "\x06ú\x08__name__\x06ù\x0c_collections\x06û\x07__doc__\t\x1f_collections.__doc__:str#opaque\x06ý\x0b__package__\x06ü\x00\x06þ\n__loader__\x04\x00\x00\x0f\x06ÿ\x08__spec__\x04\x00\x00\x1b\x06Ā\x0f_count_elements\t\x1c_collections._count_elements\x06ā\x05deque\x08\x11collections.deque\x06Ă\x0bdefaultdict\x08\x17collections.defaultdict\x06ă\x0f_deque_iterator\x08\x1bcollections._deque_iterator\x06Ą\x17_deque_reverse_iterator\x08#collections._deque_reverse_iterator\x06ą\x0c_tuplegetter\x08\x18collections._tuplegetter\x06Ć\x0bOrderedDict\x08\x17collections.OrderedDict" 0), (.bool true), (.bool false), (.str "_collections" 264)]) 0), #[]⟩
noncomputable def o_70 : Obj := ⟨(.type "tuple"), none, (.seq #[] 0), #[]⟩
noncomputable def o_71 : Obj := ⟨.none, none, (.fields #[]), #[]⟩
noncomputable def o_72 : Obj := ⟨(.type "code"), none, (.fields (List.toArray [(.str "<module>" 274), (.str "<module>" 275), (.str "/claim/cut.py" 276), (.int 1 0), (.int 0 0), (.int 0 0), (.int 0 0), (.int 0 0), (.ref 29), (.bool false), (.int 273 0), (.ref 30), .none, .none, .none, .none, (.int 277 0), (.int 1 0), (.str "/claim/cut.py" 278)])), #[]⟩
noncomputable def o_73 : Obj := ⟨(.type "frame"), none, .plain, (List.toArray [(some (.ref 31)), (some (.ref 3)), (some (.ref 3)), none, (some (.str "__main__" 164)), none, (some (.ref 0))])⟩
noncomputable def o_79 : Obj := ⟨.none, none, (.fields #[]), #[]⟩
noncomputable def o_82 : Obj := ⟨.none, none, (.func ⟨"_wall", "_wall", (fA (mS 1)), (fB (mS 1)), (fS (mS 1)), 0, [], .none, .none, .none, .none, none, .none, .none, 0⟩), #[]⟩
noncomputable def o_86 : Obj := ⟨.none, none, (.fields #[]), #[]⟩
noncomputable def o_89 : Obj := ⟨.none, none, (.func ⟨"_plain_name", "_plain_name", (fA (mS 3)), (fB (mS 3)), (fS (mS 3)), 0, [], .none, .none, .none, .none, none, .none, .none, 0⟩), #[]⟩
noncomputable def o_93 : Obj := ⟨(.type "builtin_function_or_method"), none, (.fields (List.toArray [(.builtin "type.__prepare__"), (.type "type")])), #[]⟩
noncomputable def o_94 (P : Params) : Obj := ⟨(.type "dict"), none, (.dict (List.toArray [(eN P "__module__" 306 (.str "abc" 297)), (eN P "__qualname__" 308 (.str "ABCMeta" 307)), (eN P "__firstlineno__" 310 (.int 12 309)), (eN P "register" 318 (.ref 60)), (eN P "__static_attributes__" 319 (.ref 61))]) 5), #[]⟩
noncomputable def o_95 : Obj := ⟨(.type "tuple"), none, (.seq #[] 0), #[]⟩
noncomputable def o_96 : Obj := ⟨.none, none, (.fields (List.toArray [(.int 14 0), (.int 4 0), (.ref 59)])), #[]⟩
noncomputable def o_97 : Obj := ⟨(.type "code"), none, (.fields (List.toArray [(.str "ABCMeta" 301), (.str "ABCMeta" 302), (.str "/claim/cut.py" 303), (.int 12 0), (.int 0 0), (.int 0 0), (.int 0 0), (.int 0 0), (.ref 50), (.bool false), (.int 273 0), (.ref 51), .none, .none, .none, .none, (.int 304 0), (.int 12 0), (.str "/claim/cut.py" 305)])), #[]⟩
noncomputable def o_98 : Obj := ⟨(.type "frame"), none, .plain, (List.toArray [(some (.ref 52)), (some (.ref 3)), (some (.ref 49)), none, (some (.str "abc" 297)), none, (some (.ref 0))])⟩
noncomputable def o_100 : Obj := ⟨.none, none, (.fields #[]), #[]⟩
noncomputable def o_103 : Obj := ⟨.none, none, (.func ⟨"register", "ABCMeta.register", (fA (nS 5 0)), (fB (nS 5 0)), (fS (nS 5 0)), 0, [], .none, .none, .none, .none, none, .none, .none, 0⟩), #[]⟩
noncomputable def o_109 : Obj := ⟨(.type "super"), none, (.fields (List.toArray [(.ref 63), (.ref 63), (.ref 63)])), #[]⟩
noncomputable def o_110 : Obj := ⟨(.type "builtin_function_or_method"), none, (.fields (List.toArray [(.builtin "object.__init_subclass__"), (.ref 63)])), #[]⟩
noncomputable def o_115 : Obj := ⟨(.type "builtin_function_or_method"), none, (.fields (List.toArray [(.builtin "type.__prepare__"), (.type "type")])), #[]⟩
noncomputable def o_116 (P : Params) : Obj := ⟨(.type "dict"), none, (.dict (List.toArray [(eN P "__module__" 332 (.str "collections.abc" 323)), (eN P "__qualname__" 334 (.str "_ABCLike" 333)), (eN P "__firstlineno__" 336 (.int 17 335)), (eN P "__instancecheck__" 345 (.ref 79)), (eN P "__subclasscheck__" 353 (.ref 86)), (eN P "register" 361 (.ref 93)), (eN P "__static_attributes__" 362 (.ref 94))]) 7), #[]⟩
noncomputable def o_117 : Obj := ⟨(.type "tuple"), none, (.seq #[] 0), #[]⟩
noncomputable def o_118 : Obj := ⟨.none, none, (.fields (List.toArray [(.int 19 0), (.int 4 0), (.ref 78), (.int 25 0), (.int 4 0), (.ref 85), (.int 30 0), (.int 4 0), (.ref 92)])), #[]⟩
noncomputable def o_119 : Obj := ⟨(.type "code"), none, (.fields (List.toArray [(.str "_ABCLike" 327), (.str "_ABCLike" 328), (.str "/claim/cut.py" 329), (.int 17 0), (.int 0 0), (.int 0 0), (.int 0 0), (.int 0 0), (.ref 69), (.bool false), (.int 273 0), (.ref 70), .none, .none, .none, .none, (.int 330 0), (.int 17 0), (.str "/claim/cut.py" 331)])), #[]⟩
noncomputable def o_120 : Obj := ⟨(.type "frame"), none, .plain, (List.toArray [(some (.ref 71)), (some (.ref 3)), (some (.ref 68)), none, (some (.str "collections.abc" 323)), none, (some (.ref 0))])⟩
noncomputable def o_122 : Obj := ⟨.none, none, (.fields #[]), #[]⟩
noncomputable def o_125 : Obj := ⟨.none, none, (.func ⟨"__instancecheck__", "_ABCLike.__instancecheck__", (fA (nS 7 0)), (fB (nS 7 0)), (fS (nS 7 0)), 0, [], .none, .none, .none, .none, none, .none, .none, 0⟩), #[]⟩
noncomputable def o_129 : Obj := ⟨.none, none, (.fields #[]), #[]⟩
noncomputable def o_132 : Obj := ⟨.none, none, (.func ⟨"__subclasscheck__", "_ABCLike.__subclasscheck__", (fA (nS 7 1)), (fB (nS 7 1)), (fS (nS 7 1)), 0, [], .none, .none, .none, .none, none, .none, .none, 0⟩), #[]⟩
noncomputable def o_136 : Obj := ⟨.none, none, (.fields #[]), #[]⟩
noncomputable def o_139 : Obj := ⟨.none, none, (.func ⟨"register", "_ABCLike.register", (fA (nS 7 2)), (fB (nS 7 2)), (fS (nS 7 2)), 0, [], .none, .none, .none, .none, none, .none, .none, 0⟩), #[]⟩
noncomputable def o_145 : Obj := ⟨(.type "super"), none, (.fields (List.toArray [(.ref 96), (.ref 96), (.ref 96)])), #[]⟩
noncomputable def o_146 : Obj := ⟨(.type "builtin_function_or_method"), none, (.fields (List.toArray [(.builtin "object.__init_subclass__"), (.ref 96)])), #[]⟩
noncomputable def o_148 : Obj := ⟨.none, none, (.fields #[]), #[]⟩
noncomputable def o_151 : Obj := ⟨.none, none, (.func ⟨"_abc_plain_meta", "_abc_plain_meta", (fA (mS 8)), (fB (mS 8)), (fS (mS 8)), 0, [], .none, .none, .none, .none, none, .none, .none, 0⟩), #[]⟩
noncomputable def o_155 : Obj := ⟨.none, none, (.fields #[]), #[]⟩
noncomputable def o_158 : Obj := ⟨.none, none, (.func ⟨"fspath", "fspath", (fA (mS 10)), (fB (mS 10)), (fS (mS 10)), 0, [], .none, .none, .none, .none, none, .none, .none, 0⟩), #[]⟩
noncomputable def o_164 : Obj := ⟨.none, none, (.fields #[]), #[]⟩
noncomputable def o_167 : Obj := ⟨.none, none, (.func ⟨"_check_arg_types", "_check_arg_types", (fA (mS 12)), (fB (mS 12)), (fS (mS 12)), 0, [], .none, .none, .none, .none, none, .none, .none, 0⟩), #[]⟩
noncomputable def o_171 : Obj := ⟨.none, none, (.fields #[]), #[]⟩
noncomputable def o_174 : Obj := ⟨.none, none, (.func ⟨"_get_sep", "_get_sep", (fA (mS 15)), (fB (mS 15)), (fS (mS 15)), 0, [], .none, .none, .none, .none, none, .none, .none, 0⟩), #[]⟩
noncomputable def o_178 : Obj := ⟨.none, none, (.fields #[]), #[]⟩
noncomputable def o_181 : Obj := ⟨.none, none, (.func ⟨"join", "join", (fA (mS 16)), (fB (mS 16)), (fS (mS 16)), 0, [], .none, .none, .none, .none, none, .none, .none, 0⟩), #[]⟩
noncomputable def o_185 : Obj := ⟨.none, none, (.fields #[]), #[]⟩
noncomputable def o_188 : Obj := ⟨.none, none, (.func ⟨"split", "split", (fA (mS 18)), (fB (mS 18)), (fS (mS 18)), 0, [], .none, .none, .none, .none, none, .none, .none, 0⟩), #[]⟩
noncomputable def o_192 : Obj := ⟨.none, none, (.fields #[]), #[]⟩
noncomputable def o_193 : Obj := ⟨.none, none, (.func ⟨"commonpath", "commonpath", (fA (mS 19)), (fB (mS 19)), (fS (mS 19)), 0, [], .none, .none, .none, .none, none, .none, .none, 0⟩), #[]⟩
noncomputable def o_197 : Obj := ⟨.none, none, (.fields #[]), #[]⟩
noncomputable def o_200 : Obj := ⟨.none, none, (.func ⟨"Int2AP", "Int2AP", (fA (mS 21)), (fB (mS 21)), (fS (mS 21)), 0, [], .none, .none, .none, .none, none, .none, .none, 0⟩), #[]⟩
noncomputable def o_204 : Obj := ⟨.none, none, (.fields #[]), #[]⟩
noncomputable def o_207 : Obj := ⟨.none, none, (.func ⟨"_whence", "_whence", (fA (mS 23)), (fB (mS 23)), (fS (mS 23)), 0, [], .none, .none, .none, .none, none, .none, .none, 0⟩), #[]⟩
noncomputable def o_211 : Obj := ⟨.none, none, (.fields #[]), #[]⟩
noncomputable def o_214 : Obj := ⟨.none, none, (.func ⟨"_index", "_index", (fA (mS 24)), (fB (mS 24)), (fS (mS 24)), 0, [], .none, .none, .none, .none, none, .none, .none, 0⟩), #[]⟩
noncomputable def o_221 : Obj := ⟨(.type "builtin_function_or_method"), none, (.fields (List.toArray [(.builtin "type.__prepare__"), (.type "type")])), #[]⟩
noncomputable def o_222 (P : Params) : Obj := ⟨(.type "dict"), none, (.dict (List.toArray [(eN P "__module__" 474 (.str "io" 479)), (eN P "__qualname__" 476 (.str "UnsupportedOperation" 475)), (eN P "__firstlineno__" 478 (.int 148 477)), (eN P "__static_attributes__" 481 (.ref 174))]) 4), #[]⟩
noncomputable def o_223 : Obj := ⟨(.type "tuple"), none, (.seq #[] 0), #[]⟩
noncomputable def o_224 : Obj := ⟨.none, none, (.fields #[]), #[]⟩
noncomputable def o_225 : Obj := ⟨(.type "code"), none, (.fields (List.toArray [(.str "UnsupportedOperation" 469), (.str "UnsupportedOperation" 470), (.str "/claim/cut.py" 471), (.int 148 0), (.int 0 0), (.int 0 0), (.int 0 0), (.int 0 0), (.ref 170), (.bool false), (.int 273 0), (.ref 171), .none, .none, .none, .none, (.int 472 0), (.int 148 0), (.str "/claim/cut.py" 473)])), #[]⟩
noncomputable def o_226 : Obj := ⟨(.type "frame"), none, .plain, (List.toArray [(some (.ref 172)), (some (.ref 3)), (some (.ref 169)), none, (some (.str "io" 449)), none, (some (.ref 0))])⟩
noncomputable def o_231 : Obj := ⟨(.type "super"), none, (.fields (List.toArray [(.ref 176), (.ref 176), (.ref 176)])), #[]⟩
noncomputable def o_232 : Obj := ⟨(.type "builtin_function_or_method"), none, (.fields (List.toArray [(.builtin "object.__init_subclass__"), (.ref 176)])), #[]⟩
noncomputable def o_235 : Obj := ⟨(.type "tuple"), none, (.seq #[] 0), #[]⟩
noncomputable def o_236 : Obj := ⟨(.type "builtin_function_or_method"), none, (.fields (List.toArray [(.builtin "type.__prepare__"), (.type "type")])), #[]⟩
noncomputable def o_237 (P : Params) : Obj := ⟨(.type "dict"), none, (.dict (List.toArray [(eN P "__module__" 496 (.str "io" 501)), (eN P "__qualname__" 498 (.str "IOBase" 497)), (eN P "__firstlineno__" 500 (.int 150 499)), (eN P "__new__" 511 (.ref 193)), (eN P "__static_attributes__" 512 (.ref 194))]) 5), #[]⟩
noncomputable def o_238 : Obj := ⟨(.type "tuple"), none, (.seq #[] 0), #[]⟩
noncomputable def o_239 : Obj := ⟨.none, none, (.fields (List.toArray [(.int 153 0), (.int 4 0), (.ref 192)])), #[]⟩
noncomputable def o_240 : Obj := ⟨(.type "code"), none, (.fields (List.toArray [(.str "IOBase" 491), (.str "IOBase" 492), (.str "/claim/cut.py" 493), (.int 150 0), (.int 0 0), (.int 0 0), (.int 0 0), (.int 0 0), (.ref 183), (.bool false), (.int 273 0), (.ref 184), .none, .none, .none, .none, (.int 494 0), (.int 150 0), (.str "/claim/cut.py" 495)])), #[]⟩
noncomputable def o_241 : Obj := ⟨(.type "frame"), none, .plain, (List.toArray [(some (.ref 185)), (some (.ref 3)), (some (.ref 182)), none, (some (.str "io" 449)), none, (some (.ref 0))])⟩
noncomputable def o_243 : Obj := ⟨.none, none, (.fields #[]), #[]⟩
noncomputable def o_246 : Obj := ⟨.none, none, (.func ⟨"__new__", "IOBase.__new__", (fA (nS 26 1)), (fB (nS 26 1)), (fS (nS 26 1)), 0, [], .none, .none, .none, .none, none, .none, .none, 0⟩), #[]⟩
noncomputable def o_255 : Obj := ⟨(.type "super"), none, (.fields (List.toArray [(.ref 196), (.ref 196), (.ref 196)])), #[]⟩
noncomputable def o_256 : Obj := ⟨(.type "builtin_function_or_method"), none, (.fields (List.toArray [(.builtin "object.__init_subclass__"), (.ref 196)])), #[]⟩
noncomputable def o_261 : Obj := ⟨(.type "builtin_function_or_method"), none, (.fields (List.toArray [(.builtin "type.__prepare__"), (.type "type")])), #[]⟩
noncomputable def o_262 (P : Params) : Obj := ⟨(.type "dict"), none, (.dict (List.toArray [(eN P "__module__" 528 (.str "io" 533)), (eN P "__qualname__" 530 (.str "BufferedIOBase" 529)), (eN P "__firstlineno__" 532 (.int 157 531)), (eN P "__static_attributes__" 535 (.ref 209))]) 4), #[]⟩
noncomputable def o_263 : Obj := ⟨(.type "tuple"), none, (.seq #[] 0), #[]⟩
noncomputable def o_264 : Obj := ⟨.none, none, (.fields #[]), #[]⟩
noncomputable def o_265 : Obj := ⟨(.type "code"), none, (.fields (List.toArray [(.str "BufferedIOBase" 523), (.str "BufferedIOBase" 524), (.str "/claim/cut.py" 525), (.int 157 0), (.int 0 0), (.int 0 0), (.int 0 0), (.int 0 0), (.ref 205), (.bool false), (.int 273 0), (.ref 206), .none, .none, .none, .none, (.int 526 0), (.int 157 0), (.str "/claim/cut.py" 527)])), #[]⟩
noncomputable def o_266 : Obj := ⟨(.type "frame"), none, .plain, (List.toArray [(some (.ref 207)), (some (.ref 3)), (some (.ref 204)), none, (some (.str "io" 449)), none, (some (.ref 0))])⟩
noncomputable def o_270 : Obj := ⟨(.type "super"), none, (.fields (List.toArray [(.ref 211), (.ref 211), (.ref 211)])), #[]⟩
noncomputable def o_271 : Obj := ⟨(.type "builtin_function_or_method"), none, (.fields (List.toArray [(.builtin "object.__init_subclass__"), (.ref 211)])), #[]⟩
noncomputable def o_276 : Obj := ⟨(.type "builtin_function_or_method"), none, (.fields (List.toArray [(.builtin "type.__prepare__"), (.type "type")])), #[]⟩
noncomputable def o_277 (P : Params) : Obj := ⟨(.type "dict"), none, (.dict (List.toArray [(eN P "__module__" 546 (.str "io" 551)), (eN P "__qualname__" 548 (.str "TextIOBase" 547)), (eN P "__firstlineno__" 550 (.int 159 549)), (eN P "__static_attributes__" 553 (.ref 221))]) 4), #[]⟩
noncomputable def o_278 : Obj := ⟨(.type "tuple"), none, (.seq #[] 0), #[]⟩
noncomputable def o_279 : Obj := ⟨.none, none, (.fields #[]), #[]⟩
noncomputable def o_280 : Obj := ⟨(.type "code"), none, (.fields (List.toArray [(.str "TextIOBase" 541), (.str "TextIOBase" 542), (.str "/claim/cut.py" 543), (.int 159 0), (.int 0 0), (.int 0 0), (.int 0 0), (.int 0 0), (.ref 217), (.bool false), (.int 273 0), (.ref 218), .none, .none, .none, .none, (.int 544 0), (.int 159 0), (.str "/claim/cut.py" 545)])), #[]⟩
noncomputable def o_281 : Obj := ⟨(.type "frame"), none, .plain, (List.toArray [(some (.ref 219)), (some (.ref 3)), (some (.ref 216)), none, (some (.str "io" 449)), none, (some (.ref 0))])⟩
noncomputable def o_285 : Obj := ⟨(.type "super"), none, (.fields (List.toArray [(.ref 223), (.ref 223), (.ref 223)])), #[]⟩
noncomputable def o_286 : Obj := ⟨(.type "builtin_function_or_method"), none, (.fields (List.toArray [(.builtin "object.__init_subclass__"), (.ref 223)])), #[]⟩
noncomputable def o_291 : Obj := ⟨(.type "builtin_function_or_method"), none, (.fields (List.toArray [(.builtin "type.__prepare__"), (.type "type")])), #[]⟩
noncomputable def o_292 (P : Params) : Obj := ⟨(.type "dict"), none, (.dict (List.toArray [(eN P "__module__" 564 (.str "_io" 569)), (eN P "__qualname__" 566 (.str "BytesIO" 565)), (eN P "__firstlineno__" 568 (.int 161 567)), (eN P "__init__" 578 (.ref 240)), (eN P "_BytesIO__check" 585 (.ref 247)), (eN P "_BytesIO__line" 596 (.ref 254)), (eN P "closed" 604 (.ref 262)), (eN P "close" 611 (.ref 269)), (eN P "__enter__" 618 (.ref 276)), (eN P "__exit__" 626 (.ref 283)), (eN P "readable" 633 (.ref 290)), (eN P "writable" 640 (.ref 297)), (eN P "seekable" 647 (.ref 304)), (eN P "isatty" 654 (.ref 311)), (eN P "flush" 661 (.ref 318)), (eN P "fileno" 668 (.ref 325)), (eN P "detach" 675 (.ref 332)), (eN P "getvalue" 682 (.ref 339)), (eN P "getbuffer" 689 (.ref 346)), (eN P "tell" 696 (.ref 353)), (eN P "seek" 706 (.ref 361)), (eN P "truncate" 714 (.ref 369)), (eN P "read" 726 (.ref 377)), (eN P "read1" 736 (.ref 385)), (eN P "readinto" 746 (.ref 392)), (eN P "readinto1" 754 (.ref 399)), (eN P "readline" 764 (.ref 407)), (eN P "readlines" 772 (.ref 415)), (eN P "__iter__" 779 (.ref 422)), (eN P "__next__" 787 (.ref 429)), (eN P "write" 797 (.ref 436)), (eN P "writelines" 805 (.ref 443)), (eN P "__repr__" 812 (.ref 450)), (eN P "__static_attributes__" 815 (.ref 451))]) 34), #[]⟩
noncomputable def o_293 : Obj := ⟨(.type "tuple"), none, (.seq #[] 0), #[]⟩
noncomputable def o_294 : Obj := ⟨.none, none, (.fields (List.toArray ((.int 164 0) :: (.int 4 0) :: (.ref 239) :: (.int 170 0) :: (.int 4 0) :: (.ref 246) :: (.int 174 0) :: (.int 4 0) :: (.ref 253) :: (.int 188 0) :: (.int 4 0) :: (.ref 260) :: (.int 191 0) :: (.int 4 0) :: (.ref 268) :: (.int 194 0) :: (.int 4 0) :: (.ref 275) :: (.int 198 0) :: (.int 4 0) :: (.ref 282) :: (.int 201 0) :: (.int 4 0) :: (.ref 289) :: (.int 205 0) :: (.int 4 0) :: (.ref 296) :: (.int 209 0) :: (.int 4 0) :: (.ref 303) :: (.int 213 0) :: (.int 4 0) :: (.ref 310) :: (.int 217 0) :: (.int 4 0) :: (.ref 317) :: (.int 220 0) :: (.int 4 0) :: (.ref 324) :: (.int 223 0) :: (.int 4 0) :: (.ref 331) :: (.int 226 0) :: (.int 4 0) :: (.ref 338) :: (.int 229 0) :: (.int 4 0) :: (.ref 345) :: (.int 232 0) :: (.int 4 0) :: (.ref 352) :: (.int 236 0) :: (.int 4 0) :: (.ref 360) :: (.int 253 0) :: (.int 4 0) :: (.ref 368) :: (.int 256 0) :: (.int 4 0) :: (.ref 376) :: (.int 270 0) :: (.int 4 0) :: (.ref 384) :: (.int 273 0) :: (.int 4 0) :: (.ref 391) :: (.int 287 0) :: (.int 4 0) :: (.ref 398) :: (.int 290 0) :: (.int 4 0) :: (.ref 406) :: (.int 297 0) :: (.int 4 0) :: (.ref 414) :: (.int 300 0) :: (.int 4 0) :: (.ref 421) :: (.int 303 0) :: (.int 4 0) :: (.ref 428) :: (.int 310 0) :: (.int 4 0) :: (.ref 435) :: (.int 326 0) :: (.int 4 0) :: (.ref 442) :: (.int 329 0) :: (.int 4 0) :: (.ref 449) :: []))), #[]⟩
noncomputable def o_295 : Obj := ⟨(.type "code"), none, (.fields (List.toArray [(.str "BytesIO" 559), (.str "BytesIO" 560), (.str "/claim/cut.py" 561), (.int 161 0), (.int 0 0), (.int 0 0), (.int 0 0), (.int 0 0), (.ref 229), (.bool false), (.int 273 0), (.ref 230), .none, .none, .none, .none, (.int 562 0), (.int 161 0), (.str "/claim/cut.py" 563)])), #[]⟩
noncomputable def o_296 : Obj := ⟨(.type "frame"), none, .plain, (List.toArray [(some (.ref 231)), (some (.ref 3)), (some (.ref 228)), none, (some (.str "io" 449)), none, (some (.ref 0))])⟩
noncomputable def o_299 : Obj := ⟨.none, none, (.fields #[]), #[]⟩
noncomputable def o_302 : Obj := ⟨.none, none, (.func ⟨"__init__", "BytesIO.__init__", (fA (nS 29 1)), (fB (nS 29 1)), (fS (nS 29 1)), 0, [], .none, .none, .none, .none, none, .none, .none, 0⟩), #[]⟩
noncomputable def o_306 : Obj := ⟨.none, none, (.fields #[]), #[]⟩
noncomputable def o_309 : Obj := ⟨.none, none, (.func ⟨"__check", "BytesIO.__check", (fA (nS 29 2)), (fB (nS 29 2)), (fS (nS 29 2)), 0, [], .none, .none, .none, .none, none, .none, .none, 0⟩), #[]⟩
noncomputable def o_313 : Obj := ⟨.none, none, (.fields #[]), #[]⟩
noncomputable def o_316 : Obj := ⟨.none, none, (.func ⟨"__line", "BytesIO.__line", (fA (nS 29 3)), (fB (nS 29 3)), (fS (nS 29 3)), 0, [], .none, .none, .none, .none, none, .none, .none, 0⟩), #[]⟩
noncomputable def o_320 : Obj := ⟨.none, none, (.fields #[]), #[]⟩
noncomputable def o_323 : Obj := ⟨.none, none, (.func ⟨"closed", "BytesIO.closed", (fA (nS 29 4)), (fB (nS 29 4)), (fS (nS 29 4)), 0, [], .none, .none, .none, .none, none, .none, .none, 0⟩), #[]⟩
noncomputable def o_328 : Obj := ⟨.none, none, (.fields #[]), #[]⟩
noncomputable def o_331 : Obj := ⟨.none, none, (.func ⟨"close", "BytesIO.close", (fA (nS 29 5)), (fB (nS 29 5)), (fS (nS 29 5)), 0, [], .none, .none, .none, .none, none, .none, .none, 0⟩), #[]⟩
noncomputable def o_335 : Obj := ⟨.none, none, (.fields #[]), #[]⟩
noncomputable def o_338 : Obj := ⟨.none, none, (.func ⟨"__enter__", "BytesIO.__enter__", (fA (nS 29 6)), (fB (nS 29 6)), (fS (nS 29 6)), 0, [], .none, .none, .none, .none, none, .none, .none, 0⟩), #[]⟩
noncomputable def o_342 : Obj := ⟨.none, none, (.fields #[]), #[]⟩
noncomputable def o_345 : Obj := ⟨.none, none, (.func ⟨"__exit__", "BytesIO.__exit__", (fA (nS 29 7)), (fB (nS 29 7)), (fS (nS 29 7)), 0, [], .none, .none, .none, .none, none, .none, .none, 0⟩), #[]⟩
noncomputable def o_349 : Obj := ⟨.none, none, (.fields #[]), #[]⟩
noncomputable def o_352 : Obj := ⟨.none, none, (.func ⟨"readable", "BytesIO.readable", (fA (nS 29 8)), (fB (nS 29 8)), (fS (nS 29 8)), 0, [], .none, .none, .none, .none, none, .none, .none, 0⟩), #[]⟩
noncomputable def o_356 : Obj := ⟨.none, none, (.fields #[]), #[]⟩
noncomputable def o_359 : Obj := ⟨.none, none, (.func ⟨"writable", "BytesIO.writable", (fA (nS 29 9)), (fB (nS 29 9)), (fS (nS 29 9)), 0, [], .none, .none, .none, .none, none, .none, .none, 0⟩), #[]⟩
noncomputable def o_363 : Obj := ⟨.none, none, (.fields #[]), #[]⟩
noncomputable def o_366 : Obj := ⟨.none, none, (.func ⟨"seekable", "BytesIO.seekable", (fA (nS 29 10)), (fB (nS 29 10)), (fS (nS 29 10)), 0, [], .none, .none, .none, .none, none, .none, .none, 0⟩), #[]⟩
noncomputable def o_370 : Obj := ⟨.none, none, (.fields #[]), #[]⟩
noncomputable def o_373 : Obj := ⟨.none, none, (.func ⟨"isatty", "BytesIO.isatty", (fA (nS 29 11)), (fB (nS 29 11)), (fS (nS 29 11)), 0, [], .none, .none, .none, .none, none, .none, .none, 0⟩), #[]⟩
noncomputable def o_377 : Obj := ⟨.none, none, (.fields #[]), #[]⟩
noncomputable def o_380 : Obj := ⟨.none, none, (.func ⟨"flush", "BytesIO.flush", (fA (nS 29 12)), (fB (nS 29 12)), (fS (nS 29 12)), 0, [], .none, .none, .none, .none, none, .none, .none, 0⟩), #[]⟩
noncomputable def o_384 : Obj := ⟨.none, none, (.fields #[]), #[]⟩
noncomputable def o_387 : Obj := ⟨.none, none, (.func ⟨"fileno", "BytesIO.fileno", (fA (nS 29 13)), (fB (nS 29 13)), (fS (nS 29 13)), 0, [], .none, .none, .none, .none, none, .none, .none, 0⟩), #[]⟩
noncomputable def o_391 : Obj := ⟨.none, none, (.fields #[]), #[]⟩
noncomputable def o_394 : Obj := ⟨.none, none, (.func ⟨"detach", "BytesIO.detach", (fA (nS 29 14)), (fB (nS 29 14)), (fS (nS 29 14)), 0, [], .none, .none, .none, .none, none, .none, .none, 0⟩), #[]⟩
noncomputable def o_398 : Obj := ⟨.none, none, (.fields #[]), #[]⟩
noncomputable def o_401 : Obj := ⟨.none, none, (.func ⟨"getvalue", "BytesIO.getvalue", (fA (nS 29 15)), (fB (nS 29 15)), (fS (nS 29 15)), 0, [], .none, .none, .none, .none, none, .none, .none, 0⟩), #[]⟩
noncomputable def o_405 : Obj := ⟨.none, none, (.fields #[]), #[]⟩
noncomputable def o_408 : Obj := ⟨.none, none, (.func ⟨"getbuffer", "BytesIO.getbuffer", (fA (nS 29 16)), (fB (nS 29 16)), (fS (nS 29 16)), 0, [], .none, .none, .none, .none, none, .none, .none, 0⟩), #[]⟩
noncomputable def o_412 : Obj := ⟨.none, none, (.fields #[]), #[]⟩
noncomputable def o_415 : Obj := ⟨.none, none, (.func ⟨"tell", "BytesIO.tell", (fA (nS 29 17)), (fB (nS 29 17)), (fS (nS 29 17)), 0, [], .none, .none, .none, .none, none, .none, .none, 0⟩), #[]⟩
noncomputable def o_420 : Obj := ⟨.none, none, (.fields #[]), #[]⟩
noncomputable def o_423 : Obj := ⟨.none, none, (.func ⟨"seek", "BytesIO.seek", (fA (nS 29 18)), (fB (nS 29 18)), (fS (nS 29 18)), 0, [], .none, .none, .none, .none, none, .none, .none, 0⟩), #[]⟩
noncomputable def o_428 : Obj := ⟨.none, none, (.fields #[]), #[]⟩
noncomputable def o_431 : Obj := ⟨.none, none, (.func ⟨"truncate", "BytesIO.truncate", (fA (nS 29 19)), (fB (nS 29 19)), (fS (nS 29 19)), 0, [], .none, .none, .none, .none, none, .none, .none, 0⟩), #[]⟩
noncomputable def o_436 : Obj := ⟨.none, none, (.fields #[]), #[]⟩
noncomputable def o_439 : Obj := ⟨.none, none, (.func ⟨"read", "BytesIO.read", (fA (nS 29 20)), (fB (nS 29 20)), (fS (nS 29 20)), 0, [], .none, .none, .none, .none, none, .none, .none, 0⟩), #[]⟩
noncomputable def o_444 : Obj := ⟨.none, none, (.fields #[]), #[]⟩
noncomputable def o_447 : Obj := ⟨.none, none, (.func ⟨"read1", "BytesIO.read1", (fA (nS 29 21)), (fB (nS 29 21)), (fS (nS 29 21)), 0, [], .none, .none, .none, .none, none, .none, .none, 0⟩), #[]⟩
noncomputable def o_451 : Obj := ⟨.none, none, (.fields #[]), #[]⟩
noncomputable def o_454 : Obj := ⟨.none, none, (.func ⟨"readinto", "BytesIO.readinto", (fA (nS 29 22)), (fB (nS 29 22)), (fS (nS 29 22)), 0, [], .none, .none, .none, .none, none, .none, .none, 0⟩), #[]⟩
noncomputable def o_458 : Obj := ⟨.none, none, (.fields #[]), #[]⟩
noncomputable def o_461 : Obj := ⟨.none, none, (.func ⟨"readinto1", "BytesIO.readinto1", (fA (nS 29 23)), (fB (nS 29 23)), (fS (nS 29 23)), 0, [], .none, .none, .none, .none, none, .none, .none, 0⟩), #[]⟩
noncomputable def o_466 : Obj := ⟨.none, none, (.fields #[]), #[]⟩
noncomputable def o_469 : Obj := ⟨.none, none, (.func ⟨"readline", "BytesIO.readline", (fA (nS 29 24)), (fB (nS 29 24)), (fS (nS 29 24)), 0, [], .none, .none, .none, .none, none, .none, .none, 0⟩), #[]⟩
noncomputable def o_474 : Obj := ⟨.none, none, (.fields #[]), #[]⟩
noncomputable def o_477 : Obj := ⟨.none, none, (.func ⟨"readlines", "BytesIO.readlines", (fA (nS 29 25)), (fB (nS 29 25)), (fS (nS 29 25)), 0, [], .none, .none, .none, .none, none, .none, .none, 0⟩), #[]⟩
noncomputable def o_481 : Obj := ⟨.none, none, (.fields #[]), #[]⟩
noncomputable def o_484 : Obj := ⟨.none, none, (.func ⟨"__iter__", "BytesIO.__iter__", (fA (nS 29 26)), (fB (nS 29 26)), (fS (nS 29 26)), 0, [], .none, .none, .none, .none, none, .none, .none, 0⟩), #[]⟩
noncomputable def o_488 : Obj := ⟨.none, none, (.fields #[]), #[]⟩
noncomputable def o_491 : Obj := ⟨.none, none, (.func ⟨"__next__", "BytesIO.__next__", (fA (nS 29 27)), (fB (nS 29 27)), (fS (nS 29 27)), 0, [], .none, .none, .none, .none, none, .none, .none, 0⟩), #[]⟩
noncomputable def o_495 : Obj := ⟨.none, none, (.fields #[]), #[]⟩
noncomputable def o_498 : Obj := ⟨.none, none, (.func ⟨"write", "BytesIO.write", (fA (nS 29 28)), (fB (nS 29 28)), (fS (nS 29 28)), 0, [], .none, .none, .none, .none, none, .none, .none, 0⟩), #[]⟩
noncomputable def o_502 : Obj := ⟨.none, none, (.fields #[]), #[]⟩
noncomputable def o_505 : Obj := ⟨.none, none, (.func ⟨"writelines", "BytesIO.writelines", (fA (nS 29 29)), (fB (nS 29 29)), (fS (nS 29 29)), 0, [], .none, .none, .none, .none, none, .none, .none, 0⟩), #[]⟩
noncomputable def o_509 : Obj := ⟨.none, none, (.fields #[]), #[]⟩
noncomputable def o_512 : Obj := ⟨.none, none, (.func ⟨"__repr__", "BytesIO.__repr__", (fA (nS 29 30)), (fB (nS 29 30)), (fS (nS 29 30)), 0, [], .none, .none, .none, .none, none, .none, .none, 0⟩), #[]⟩
noncomputable def o_518 : Obj := ⟨(.type "super"), none, (.fields (List.toArray [(.ref 453), (.ref 453), (.ref 453)])), #[]⟩
noncomputable def o_519 : Obj := ⟨(.type "builtin_function_or_method"), none, (.fields (List.toArray [(.builtin "object.__init_subclass__"), (.ref 453)])), #[]⟩
noncomputable def o_694 : Obj := ⟨(.type "builtin_function_or_method"), none, (.fields (List.toArray [(.builtin "type.__prepare__"), (.type "type")])), #[]⟩
noncomputable def o_695 (P : Params) : Obj := ⟨(.type "dict"), none, (.dict (List.toArray [(eN P "__module__" 826 (.str "_io" 831)), (eN P "__qualname__" 828 (.str "StringIO" 827)), (eN P "__firstlineno__" 830 (.int 331 829)), (eN P "__init__" 843 (.ref 470)), (eN P "_StringIO__translated" 852 (.ref 477)), (eN P "_StringIO__check" 859 (.ref 484)), (eN P "_StringIO__check_dot" 866 (.ref 491)), (eN P "_StringIO__line" 881 (.ref 498)), (eN P "closed" 889 (.ref 506)), (eN P "line_buffering" 897 (.ref 514)), (eN P "newlines" 905 (.ref 522)), (eN P "encoding" 913 (.ref 530)), (eN P "errors" 921 (.ref 538)), (eN P "close" 928 (.ref 545)), (eN P "__enter__" 935 (.ref 552)), (eN P "__exit__" 943 (.ref 559)), (eN P "readable" 950 (.ref 566)), (eN P "writable" 957 (.ref 573)), (eN P "seekable" 964 (.ref 580)), (eN P "isatty" 971 (.ref 587)), (eN P "flush" 978 (.ref 594)), (eN P "fileno" 985 (.ref 601)), (eN P "detach" 992 (.ref 608)), (eN P "getvalue" 999 (.ref 615)), (eN P "tell" 1006 (.ref 622)), (eN P "seek" 1016 (.ref 630)), (eN P "truncate" 1024 (.ref 638)), (eN P "read" 1036 (.ref 646)), (eN P "readline" 1046 (.ref 654)), (eN P "readlines" 1056 (.ref 662)), (eN P "__iter__" 1063 (.ref 669)), (eN P "__next__" 1071 (.ref 676)), (eN P "write" 1083 (.ref 683)), (eN P "writelines" 1091 (.ref 690)), (eN P "__repr__" 1098 (.ref 697)), (eN P "__static_attributes__" 1102 (.ref 698))]) 36), #[]⟩
noncomputable def o_696 : Obj := ⟨(.type "tuple"), none, (.seq #[] 0), #[]⟩
noncomputable def o_697 : Obj := ⟨.none, none, (.fields (List.toArray ((.int 334 0) :: (.int 4 0) :: (.ref 469) :: (.int 347 0) :: (.int 4 0) :: (.ref 476) :: (.int 355 0) :: (.int 4 0) :: (.ref 483) :: (.int 359 0) :: (.int 4 0) :: (.ref 490) :: (.int 363 0) :: (.int 4 0) :: (.ref 497) :: (.int 396 0) :: (.int 4 0) :: (.ref 504) :: (.int 400 0) :: (.int 4 0) :: (.ref 512) :: (.int 404 0) :: (.int 4 0) :: (.ref 520) :: (.int 408 0) :: (.int 4 0) :: (.ref 528) :: (.int 412 0) :: (.int 4 0) :: (.ref 536) :: (.int 415 0) :: (.int 4 0) :: (.ref 544) :: (.int 418 0) :: (.int 4 0) :: (.ref 551) :: (.int 422 0) :: (.int 4 0) :: (.ref 558) :: (.int 425 0) :: (.int 4 0) :: (.ref 565) :: (.int 429 0) :: (.int 4 0) :: (.ref 572) :: (.int 433 0) :: (.int 4 0) :: (.ref 579) :: (.int 437 0) :: (.int 4 0) :: (.ref 586) :: (.int 441 0) :: (.int 4 0) :: (.ref 593) :: (.int 444 0) :: (.int 4 0) :: (.ref 600) :: (.int 447 0) :: (.int 4 0) :: (.ref 607) :: (.int 450 0) :: (.int 4 0) :: (.ref 614) :: (.int 453 0) :: (.int 4 0) :: (.ref 621) :: (.int 457 0) :: (.int 4 0) :: (.ref 629) :: (.int 474 0) :: (.int 4 0) :: (.ref 637) :: (.int 477 0) :: (.int 4 0) :: (.ref 645) :: (.int 491 0) :: (.int 4 0) :: (.ref 653) :: (.int 498 0) :: (.int 4 0) :: (.ref 661) :: (.int 501 0) :: (.int 4 0) :: (.ref 668) :: (.int 505 0) :: (.int 4 0) :: (.ref 675) :: (.int 512 0) :: (.int 4 0) :: (.ref 682) :: (.int 531 0) :: (.int 4 0) :: (.ref 689) :: (.int 534 0) :: (.int 4 0) :: (.ref 696) :: []))), #[]⟩
noncomputable def o_698 : Obj := ⟨(.type "code"), none, (.fields (List.toArray [(.str "StringIO" 821), (.str "StringIO" 822), (.str "/claim/cut.py" 823), (.int 331 0), (.int 0 0), (.int 0 0), (.int 0 0), (.int 0 0), (.ref 459), (.bool false), (.int 273 0), (.ref 460), .none, .none, .none, .none, (.int 824 0), (.int 331 0), (.str "/claim/cut.py" 825)])), #[]⟩
noncomputable def o_699 : Obj := ⟨(.type "frame"), none, .plain, (List.toArray [(some (.ref 461)), (some (.ref 3)), (some (.ref 458)), none, (some (.str "io" 449)), none, (some (.ref 0))])⟩
noncomputable def o_702 : Obj := ⟨.none, none, (.fields #[]), #[]⟩
noncomputable def o_705 : Obj := ⟨.none, none, (.func ⟨"__init__", "StringIO.__init__", (fA (nS 30 1)), (fB (nS 30 1)), (fS (nS 30 1)), 0, [], .none, .none, .none, .none, none, .none, .none, 0⟩), #[]⟩
noncomputable def o_709 : Obj := ⟨.none, none, (.fields #[]), #[]⟩
noncomputable def o_712 : Obj := ⟨.none, none, (.func ⟨"__translated", "StringIO.__translated", (fA (nS 30 2)), (fB (nS 30 2)), (fS (nS 30 2)), 0, [], .none, .none, .none, .none, none, .none, .none, 0⟩), #[]⟩
noncomputable def o_716 : Obj := ⟨.none, none, (.fields #[]), #[]⟩
noncomputable def o_719 : Obj := ⟨.none, none, (.func ⟨"__check", "StringIO.__check", (fA (nS 30 3)), (fB (nS 30 3)), (fS (nS 30 3)), 0, [], .none, .none, .none, .none, none, .none, .none, 0⟩), #[]⟩
noncomputable def o_723 : Obj := ⟨.none, none, (.fields #[]), #[]⟩
noncomputable def o_726 : Obj := ⟨.none, none, (.func ⟨"__check_dot", "StringIO.__check_dot", (fA (nS 30 4)), (fB (nS 30 4)), (fS (nS 30 4)), 0, [], .none, .none, .none, .none, none, .none, .none, 0⟩), #[]⟩
noncomputable def o_730 : Obj := ⟨.none, none, (.fields #[]), #[]⟩
noncomputable def o_733 : Obj := ⟨.none, none, (.func ⟨"__line", "StringIO.__line", (fA (nS 30 5)), (fB (nS 30 5)), (fS (nS 30 5)), 0, [], .none, .none, .none, .none, none, .none, .none, 0⟩), #[]⟩
noncomputable def o_737 : Obj := ⟨.none, none, (.fields #[]), #[]⟩
noncomputable def o_740 : Obj := ⟨.none, none, (.func ⟨"closed", "StringIO.closed", (fA (nS 30 6)), (fB (nS 30 6)), (fS (nS 30 6)), 0, [], .none, .none, .none, .none, none, .none, .none, 0⟩), #[]⟩
noncomputable def o_745 : Obj := ⟨.none, none, (.fields #[]), #[]⟩
noncomputable def o_748 : Obj := ⟨.none, none, (.func ⟨"line_buffering", "StringIO.line_buffering", (fA (nS 30 7)), (fB (nS 30 7)), (fS (nS 30 7)), 0, [], .none, .none, .none, .none, none, .none, .none, 0⟩), #[]⟩
noncomputable def o_753 : Obj := ⟨.none, none, (.fields #[]), #[]⟩
noncomputable def o_756 : Obj := ⟨.none, none, (.func ⟨"newlines", "StringIO.newlines", (fA (nS 30 8)), (fB (nS 30 8)), (fS (nS 30 8)), 0, [], .none, .none, .none, .none, none, .none, .none, 0⟩), #[]⟩
noncomputable def o_761 : Obj := ⟨.none, none, (.fields #[]), #[]⟩
noncomputable def o_764 : Obj := ⟨.none, none, (.func ⟨"encoding", "StringIO.encoding", (fA (nS 30 9)), (fB (nS 30 9)), (fS (nS 30 9)), 0, [], .none, .none, .none, .none, none, .none, .none, 0⟩), #[]⟩
noncomputable def o_769 : Obj := ⟨.none, none, (.fields #[]), #[]⟩
noncomputable def o_772 : Obj := ⟨.none, none, (.func ⟨"errors", "StringIO.errors", (fA (nS 30 10)), (fB (nS 30 10)), (fS (nS 30 10)), 0, [], .none, .none, .none, .none, none, .none, .none, 0⟩), #[]⟩
noncomputable def o_777 : Obj := ⟨.none, none, (.fields #[]), #[]⟩
noncomputable def o_780 : Obj := ⟨.none, none, (.func ⟨"close", "StringIO.close", (fA (nS 30 11)), (fB (nS 30 11)), (fS (nS 30 11)), 0, [], .none, .none, .none, .none, none, .none, .none, 0⟩), #[]⟩
noncomputable def o_784 : Obj := ⟨.none, none, (.fields #[]), #[]⟩
noncomputable def o_787 : Obj := ⟨.none, none, (.func ⟨"__enter__", "StringIO.__enter__", (fA (nS 30 12)), (fB (nS 30 12)), (fS (nS 30 12)), 0, [], .none, .none, .none, .none, none, .none, .none, 0⟩), #[]⟩
noncomputable def o_791 : Obj := ⟨.none, none, (.fields #[]), #[]⟩
noncomputable def o_794 : Obj := ⟨.none, none, (.func ⟨"__exit__", "StringIO.__exit__", (fA (nS 30 13)), (fB (nS 30 13)), (fS (nS 30 13)), 0, [], .none, .none, .none, .none, none, .none, .none, 0⟩), #[]⟩
noncomputable def o_798 : Obj := ⟨.none, none, (.fields #[]), #[]⟩
noncomputable def o_801 : Obj := ⟨.none, none, (.func ⟨"readable", "StringIO.readable", (fA (nS 30 14)), (fB (nS 30 14)), (fS (nS 30 14)), 0, [], .none, .none, .none, .none, none, .none, .none, 0⟩), #[]⟩
noncomputable def o_805 : Obj := ⟨.none, none, (.fields #[]), #[]⟩
noncomputable def o_808 : Obj := ⟨.none, none, (.func ⟨"writable", "StringIO.writable", (fA (nS 30 15)), (fB (nS 30 15)), (fS (nS 30 15)), 0, [], .none, .none, .none, .none, none, .none, .none, 0⟩), #[]⟩
noncomputable def o_812 : Obj := ⟨.none, none, (.fields #[]), #[]⟩
noncomputable def o_815 : Obj := ⟨.none, none, (.func ⟨"seekable", "StringIO.seekable", (fA (nS 30 16)), (fB (nS 30 16)), (fS (nS 30 16)), 0, [], .none, .none, .none, .none, none, .none, .none, 0⟩), #[]⟩
noncomputable def o_819 : Obj := ⟨.none, none, (.fields #[]), #[]⟩
noncomputable def o_822 : Obj := ⟨.none, none, (.func ⟨"isatty", "StringIO.isatty", (fA (nS 30 17)), (fB (nS 30 17)), (fS (nS 30 17)), 0, [], .none, .none, .none, .none, none, .none, .none, 0⟩), #[]⟩
noncomputable def o_826 : Obj := ⟨.none, none, (.fields #[]), #[]⟩
noncomputable def o_829 : Obj := ⟨.none, none, (.func ⟨"flush", "StringIO.flush", (fA (nS 30 18)), (fB (nS 30 18)), (fS (nS 30 18)), 0, [], .none, .none, .none, .none, none, .none, .none, 0⟩), #[]⟩
noncomputable def o_833 : Obj := ⟨.none, none, (.fields #[]), #[]⟩
noncomputable def o_836 : Obj := ⟨.none, none, (.func ⟨"fileno", "StringIO.fileno", (fA (nS 30 19)), (fB (nS 30 19)), (fS (nS 30 19)), 0, [], .none, .none, .none, .none, none, .none, .none, 0⟩), #[]⟩
noncomputable def o_840 : Obj := ⟨.none, none, (.fields #[]), #[]⟩
noncomputable def o_843 : Obj := ⟨.none, none, (.func ⟨"detach", "StringIO.detach", (fA (nS 30 20)), (fB (nS 30 20)), (fS (nS 30 20)), 0, [], .none, .none, .none, .none, none, .none, .none, 0⟩), #[]⟩
noncomputable def o_847 : Obj := ⟨.none, none, (.fields #[]), #[]⟩
noncomputable def o_850 : Obj := ⟨.none, none, (.func ⟨"getvalue", "StringIO.getvalue", (fA (nS 30 21)), (fB (nS 30 21)), (fS (nS 30 21)), 0, [], .none, .none, .none, .none, none, .none, .none, 0⟩), #[]⟩
noncomputable def o_854 : Obj := ⟨.none, none, (.fields #[]), #[]⟩
noncomputable def o_857 : Obj := ⟨.none, none, (.func ⟨"tell", "StringIO.tell", (fA (nS 30 22)), (fB (nS 30 22)), (fS (nS 30 22)), 0, [], .none, .none, .none, .none, none, .none, .none, 0⟩), #[]⟩
noncomputable def o_862 : Obj := ⟨.none, none, (.fields #[]), #[]⟩
noncomputable def o_865 : Obj := ⟨.none, none, (.func ⟨"seek", "StringIO.seek", (fA (nS 30 23)), (fB (nS 30 23)), (fS (nS 30 23)), 0, [], .none, .none, .none, .none, none, .none, .none, 0⟩), #[]⟩
noncomputable def o_870 : Obj := ⟨.none, none, (.fields #[]), #[]⟩
noncomputable def o_873 : Obj := ⟨.none, none, (.func ⟨"truncate", "StringIO.truncate", (fA (nS 30 24)), (fB (nS 30 24)), (fS (nS 30 24)), 0, [], .none, .none, .none, .none, none, .none, .none, 0⟩), #[]⟩
noncomputable def o_878 : Obj := ⟨.none, none, (.fields #[]), #[]⟩
noncomputable def o_881 : Obj := ⟨.none, none, (.func ⟨"read", "StringIO.read", (fA (nS 30 25)), (fB (nS 30 25)), (fS (nS 30 25)), 0, [], .none, .none, .none, .none, none, .none, .none, 0⟩), #[]⟩
noncomputable def o_886 : Obj := ⟨.none, none, (.fields #[]), #[]⟩
noncomputable def o_889 : Obj := ⟨.none, none, (.func ⟨"readline", "StringIO.readline", (fA (nS 30 26)), (fB (nS 30 26)), (fS (nS 30 26)), 0, [], .none, .none, .none, .none, none, .none, .none, 0⟩), #[]⟩
noncomputable def o_894 : Obj := ⟨.none, none, (.fields #[]), #[]⟩
noncomputable def o_897 : Obj := ⟨.none, none, (.func ⟨"readlines", "StringIO.readlines", (fA (nS 30 27)), (fB (nS 30 27)), (fS (nS 30 27)), 0, [], .none, .none, .none, .none, none, .none, .none, 0⟩), #[]⟩
noncomputable def o_901 : Obj := ⟨.none, none, (.fields #[]), #[]⟩
noncomputable def o_904 : Obj := ⟨.none, none, (.func ⟨"__iter__", "StringIO.__iter__", (fA (nS 30 28)), (fB (nS 30 28)), (fS (nS 30 28)), 0, [], .none, .none, .none, .none, none, .none, .none, 0⟩), #[]⟩
noncomputable def o_908 : Obj := ⟨.none, none, (.fields #[]), #[]⟩
noncomputable def o_911 : Obj := ⟨.none, none, (.func ⟨"__next__", "StringIO.__next__", (fA (nS 30 29)), (fB (nS 30 29)), (fS (nS 30 29)), 0, [], .none, .none, .none, .none, none, .none, .none, 0⟩), #[]⟩
noncomputable def o_915 : Obj := ⟨.none, none, (.fields #[]), #[]⟩
noncomputable def o_918 : Obj := ⟨.none, none, (.func ⟨"write", "StringIO.write", (fA (nS 30 30)), (fB (nS 30 30)), (fS (nS 30 30)), 0, [], .none, .none, .none, .none, none, .none, .none, 0⟩), #[]⟩
noncomputable def o_922 : Obj := ⟨.none, none, (.fields #[]), #[]⟩
noncomputable def o_925 : Obj := ⟨.none, none, (.func ⟨"writelines", "StringIO.writelines", (fA (nS 30 31)), (fB (nS 30 31)), (fS (nS 30 31)), 0, [], .none, .none, .none, .none, none, .none, .none, 0⟩), #[]⟩
noncomputable def o_929 : Obj := ⟨.none, none, (.fields #[]), #[]⟩
noncomputable def o_932 : Obj := ⟨.none, none, (.func ⟨"__repr__", "StringIO.__repr__", (fA (nS 30 32)), (fB (nS 30 32)), (fS (nS 30 32)), 0, [], .none, .none, .none, .none, none, .none, .none, 0⟩), #[]⟩
noncomputable def o_938 : Obj := ⟨(.type "super"), none, (.fields (List.toArray [(.ref 700), (.ref 700), (.ref 700)])), #[]⟩
noncomputable def o_939 : Obj := ⟨(.type "builtin_function_or_method"), none, (.fields (List.toArray [(.builtin "object.__init_subclass__"), (.ref 700)])), #[]⟩
noncomputable def o_1163 : Obj := ⟨.none, none, (.fields #[]), #[]⟩
noncomputable def o_1166 : Obj := ⟨.none, none, (.func ⟨"_kind", "_kind", (fA (mS 32)), (fB (mS 32)), (fS (mS 32)), 0, [], .none, .none, .none, .none, none, .none, .none, 0⟩), #[]⟩
noncomputable def o_1170 : Obj := ⟨.none, none, (.fields #[]), #[]⟩
noncomputable def o_1173 : Obj := ⟨.none, none, (.func ⟨"_fspath", "_fspath", (fA (mS 33)), (fB (mS 33)), (fS (mS 33)), 0, [], .none, .none, .none, .none, none, .none, .none, 0⟩), #[]⟩
noncomputable def o_1177 : Obj := ⟨.none, none, (.fields #[]), #[]⟩
noncomputable def o_1180 : Obj := ⟨.none, none, (.func ⟨"_check_arg_types", "_check_arg_types", (fA (mS 34)), (fB (mS 34)), (fS (mS 34)), 0, [], .none, .none, .none, .none, none, .none, .none, 0⟩), #[]⟩
noncomputable def o_1184 : Obj := ⟨.none, none, (.fields #[]), #[]⟩
noncomputable def o_1187 : Obj := ⟨.none, none, (.func ⟨"isabs", "isabs", (fA (mS 36)), (fB (mS 36)), (fS (mS 36)), 0, [], .none, .none, .none, .none, none, .none, .none, 0⟩), #[]⟩
noncomputable def o_1191 : Obj := ⟨.none, none, (.fields #[]), #[]⟩
noncomputable def o_1194 : Obj := ⟨.none, none, (.func ⟨"join", "join", (fA (mS 37)), (fB (mS 37)), (fS (mS 37)), 0, [], .none, .none, .none, .none, none, .none, .none, 0⟩), #[]⟩
noncomputable def o_1198 : Obj := ⟨.none, none, (.fields #[]), #[]⟩
noncomputable def o_1201 : Obj := ⟨.none, none, (.func ⟨"dirname", "dirname", (fA (mS 39)), (fB (mS 39)), (fS (mS 39)), 0, [], .none, .none, .none, .none, none, .none, .none, 0⟩), #[]⟩
noncomputable def o_1206 : Obj := ⟨(.type "tuple"), none, (.seq #[] 0), #[]⟩
noncomputable def o_1207 : Obj := ⟨(.type "builtin_function_or_method"), none, (.fields (List.toArray [(.builtin "type.__prepare__"), (.type "type")])), #[]⟩
noncomputable def o_1208 (P : Params) : Obj := ⟨(.type "dict"), none, (.dict (List.toArray [(eN P "__module__" 1175 (.str "cpy313.shlex" 1166)), (eN P "__qualname__" 1177 (.str "shlex" 1176)), (eN P "__firstlineno__" 1179 (.int 602 1178)), (eN P "__init__" 1191 (.ref 759)), (eN P "punctuation_chars" 1199 (.ref 767)), (eN P "push_token" 1207 (.ref 774)), (eN P "push_source" 1216 (.ref 782)), (eN P "pop_source" 1223 (.ref 789)), (eN P "get_token" 1235 (.ref 796)), (eN P "read_token" 1246 (.ref 803)), (eN P "sourcehook" 1254 (.ref 810)), (eN P "error_leader" 1263 (.ref 818)), (eN P "__iter__" 1270 (.ref 825)), (eN P "__next__" 1278 (.ref 832)), (eN P "__static_attributes__" 1299 (.ref 833))]) 15), #[]⟩
noncomputable def o_1209 : Obj := ⟨(.type "tuple"), none, (.seq #[] 0), #[]⟩
noncomputable def o_1210 : Obj := ⟨.none, none, (.fields (List.toArray [(.int 604 0), (.int 4 0), (.ref 758), (.int 646 0), (.int 4 0), (.ref 765), (.int 649 0), (.int 4 0), (.ref 773), (.int 652 0), (.int 4 0), (.ref 781), (.int 665 0), (.int 4 0), (.ref 788), (.int 672 0), (.int 4 0), (.ref 795), (.int 699 0), (.int 4 0), (.ref 802), (.int 836 0), (.int 4 0), (.ref 809), (.int 843 0), (.int 4 0), (.ref 817), (.int 846 0), (.int 4 0), (.ref 824), (.int 849 0), (.int 4 0), (.ref 831)])), #[]⟩
noncomputable def o_1211 : Obj := ⟨(.type "code"), none, (.fields (List.toArray [(.str "shlex" 1170), (.str "shlex" 1171), (.str "/claim/cut.py" 1172), (.int 602 0), (.int 0 0), (.int 0 0), (.int 0 0), (.int 0 0), (.ref 748), (.bool false), (.int 273 0), (.ref 749), .none, .none, .none, .none, (.int 1173 0), (.int 602 0), (.str "/claim/cut.py" 1174)])), #[]⟩
noncomputable def o_1212 : Obj := ⟨(.type "frame"), none, .plain, (List.toArray [(some (.ref 750)), (some (.ref 3)), (some (.ref 747)), none, (some (.str "cpy313.shlex" 1166)), none, (some (.ref 0))])⟩
noncomputable def o_1215 : Obj := ⟨.none, none, (.fields #[]), #[]⟩
noncomputable def o_1218 : Obj := ⟨.none, none, (.func ⟨"__init__", "shlex.__init__", (fA (nS 41 0)), (fB (nS 41 0)), (fS (nS 41 0)), 0, [], .none, .none, .none, .none, none, .none, .none, 0⟩), #[]⟩
noncomputable def o_1222 : Obj := ⟨.none, none, (.fields #[]), #[]⟩
noncomputable def o_1225 : Obj := ⟨.none, none, (.func ⟨"punctuation_chars", "shlex.punctuation_chars", (fA (nS 41 1)), (fB (nS 41 1)), (fS (nS 41 1)), 0, [], .none, .none, .none, .none, none, .none, .none, 0⟩), #[]⟩
noncomputable def o_1230 : Obj := ⟨.none, none, (.fields #[]), #[]⟩
noncomputable def o_1233 : Obj := ⟨.none, none, (.func ⟨"push_token", "shlex.push_token", (fA (nS 41 2)), (fB (nS 41 2)), (fS (nS 41 2)), 0, [], .none, .none, .none, .none, none, .none, .none, 0⟩), #[]⟩
noncomputable def o_1238 : Obj := ⟨.none, none, (.fields #[]), #[]⟩
noncomputable def o_1241 : Obj := ⟨.none, none, (.func ⟨"push_source", "shlex.push_source", (fA (nS 41 3)), (fB (nS 41 3)), (fS (nS 41 3)), 0, [], .none, .none, .none, .none, none, .none, .none, 0⟩), #[]⟩
noncomputable def o_1245 : Obj := ⟨.none, none, (.fields #[]), #[]⟩
noncomputable def o_1248 : Obj := ⟨.none, none, (.func ⟨"pop_source", "shlex.pop_source", (fA (nS 41 4)), (fB (nS 41 4)), (fS (nS 41 4)), 0, [], .none, .none, .none, .none, none, .none, .none, 0⟩), #[]⟩
noncomputable def o_1252 : Obj := ⟨.none, none, (.fields #[]), #[]⟩
noncomputable def o_1255 : Obj := ⟨.none, none, (.func ⟨"get_token", "shlex.get_token", (fA (nS 41 5)), (fB (nS 41 5)), (fS (nS 41 5)), 0, [], .none, .none, .none, .none, none, .none, .none, 0⟩), #[]⟩
noncomputable def o_1259 : Obj := ⟨.none, none, (.fields #[]), #[]⟩
noncomputable def o_1262 : Obj := ⟨.none, none, (.func ⟨"read_token", "shlex.read_token", (fA (nS 41 6)), (fB (nS 41 6)), (fS (nS 41 6)), 0, [], .none, .none, .none, .none, none, .none, .none, 0⟩), #[]⟩
noncomputable def o_1266 : Obj := ⟨.none, none, (.fields #[]), #[]⟩
noncomputable def o_1269 : Obj := ⟨.none, none, (.func ⟨"sourcehook", "shlex.sourcehook", (fA (nS 41 7)), (fB (nS 41 7)), (fS (nS 41 7)), 0, [], .none, .none, .none, .none, none, .none, .none, 0⟩), #[]⟩
noncomputable def o_1274 : Obj := ⟨.none, none, (.fields #[]), #[]⟩
noncomputable def o_1277 : Obj := ⟨.none, none, (.func ⟨"error_leader", "shlex.error_leader", (fA (nS 41 8)), (fB (nS 41 8)), (fS (nS 41 8)), 0, [], .none, .none, .none, .none, none, .none, .none, 0⟩), #[]⟩
noncomputable def o_1281 : Obj := ⟨.none, none, (.fields #[]), #[]⟩
noncomputable def o_1284 : Obj := ⟨.none, none, (.func ⟨"__iter__", "shlex.__iter__", (fA (nS 41 9)), (fB (nS 41 9)), (fS (nS 41 9)), 0, [], .none, .none, .none, .none, none, .none, .none, 0⟩), #[]⟩
noncomputable def o_1288 : Obj := ⟨.none, none, (.fields #[]), #[]⟩
noncomputable def o_1291 : Obj := ⟨.none, none, (.func ⟨"__next__", "shlex.__next__", (fA (nS 41 10)), (fB (nS 41 10)), (fS (nS 41 10)), 0, [], .none, .none, .none, .none, none, .none, .none, 0⟩), #[]⟩
noncomputable def o_1299 : Obj := ⟨(.type "super"), none, (.fields (List.toArray [(.ref 835), (.ref 835), (.ref 835)])), #[]⟩
noncomputable def o_1300 : Obj := ⟨(.type "builtin_function_or_method"), none, (.fields (List.toArray [(.builtin "object.__init_subclass__"), (.ref 835)])), #[]⟩
noncomputable def o_1380 : Obj := ⟨.none, none, (.fields (List.toArray ((.int 2 0) :: (.int 0 0) :: (.ref 38) :: (.int 6 0) :: (.int 0 0) :: (.ref 45) :: (.int 12 0) :: (.int 0 0) :: (.ref 52) :: (.int 17 0) :: (.int 0 0) :: (.ref 71) :: (.int 32 0) :: (.int 0 0) :: (.ref 104) :: (.int 36 0) :: (.int 0 0) :: (.ref 111) :: (.int 53 0) :: (.int 0 0) :: (.ref 118) :: (.int 66 0) :: (.int 0 0) :: (.ref 125) :: (.int 71 0) :: (.int 0 0) :: (.ref 132) :: (.int 89 0) :: (.int 0 0) :: (.ref 139) :: (.int 97 0) :: (.int 0 0) :: (.ref 144) :: (.int 127 0) :: (.int 0 0) :: (.ref 151) :: (.int 136 0) :: (.int 0 0) :: (.ref 158) :: (.int 141 0) :: (.int 0 0) :: (.ref 165) :: (.int 148 0) :: (.int 0 0) :: (.ref 172) :: (.int 150 0) :: (.int 0 0) :: (.ref 185) :: (.int 157 0) :: (.int 0 0) :: (.ref 207) :: (.int 159 0) :: (.int 0 0) :: (.ref 219) :: (.int 161 0) :: (.int 0 0) :: (.ref 231) :: (.int 331 0) :: (.int 0 0) :: (.ref 461) :: (.int 537 0) :: (.int 0 0) :: (.ref 708) :: (.int 558 0) :: (.int 0 0) :: (.ref 715) :: (.int 563 0) :: (.int 0 0) :: (.ref 722) :: (.int 569 0) :: (.int 0 0) :: (.ref 729) :: (.int 572 0) :: (.int 0 0) :: (.ref 736) :: (.int 593 0) :: (.int 0 0) :: (.ref 743) :: (.int 602 0) :: (.int 0 0) :: (.ref 750) :: (.int 855 0) :: (.int 0 0) :: (.ref 845) :: (.int 865 0) :: (.int 0 0) :: (.ref 852) :: (.int 870 0) :: (.int 0 0) :: (.ref 857) :: (.int 875 0) :: (.int 0 0) :: (.ref 864) :: (.int 884 0) :: (.int 0 0) :: (.ref 871) :: (.int 896 0) :: (.int 0 0) :: (.ref 878) :: (.int 902 0) :: (.int 0 0) :: (.ref 885) :: (.int 910 0) :: (.int 0 0) :: (.ref 890) :: []))), #[]⟩
noncomputable def o_1382 : Obj := ⟨.none, none, (.fields #[]), #[]⟩
noncomputable def o_1385 : Obj := ⟨.none, none, (.func ⟨"_law_rows", "_law_rows", (fA (mS 43)), (fB (mS 43)), (fS (mS 43)), 0, [], .none, .none, .none, .none, none, .none, .none, 0⟩), #[]⟩
noncomputable def o_1389 : Obj := ⟨.none, none, (.fields #[]), #[]⟩
noncomputable def o_1392 : Obj := ⟨.none, none, (.func ⟨"_law_path", "_law_path", (fA (mS 44)), (fB (mS 44)), (fS (mS 44)), 0, [], .none, .none, .none, .none, none, .none, .none, 0⟩), #[]⟩
noncomputable def o_1396 : Obj := ⟨.none, none, (.fields #[]), #[]⟩
noncomputable def o_1397 : Obj := ⟨.none, none, (.func ⟨"_law_lengths", "_law_lengths", (fA (mS 45)), (fB (mS 45)), (fS (mS 45)), 0, [], .none, .none, .none, .none, none, .none, .none, 0⟩), #[]⟩
noncomputable def o_1401 : Obj := ⟨.none, none, (.fields #[]), #[]⟩
noncomputable def o_1404 : Obj := ⟨.none, none, (.func ⟨"_law_climb", "_law_climb", (fA (mS 46)), (fB (mS 46)), (fS (mS 46)), 0, [], .none, .none, .none, .none, none, .none, .none, 0⟩), #[]⟩
noncomputable def o_1408 : Obj := ⟨.none, none, (.fields #[]), #[]⟩
noncomputable def o_1411 : Obj := ⟨.none, none, (.func ⟨"_law_fraction", "_law_fraction", (fA (mS 47)), (fB (mS 47)), (fS (mS 47)), 0, [], .none, .none, .none, .none, none, .none, .none, 0⟩), #[]⟩
noncomputable def o_1415 : Obj := ⟨.none, none, (.fields #[]), #[]⟩
noncomputable def o_1418 : Obj := ⟨.none, none, (.func ⟨"_law_quotients", "_law_quotients", (fA (mS 48)), (fB (mS 48)), (fS (mS 48)), 0, [], .none, .none, .none, .none, none, .none, .none, 0⟩), #[]⟩
noncomputable def o_1422 : Obj := ⟨.none, none, (.fields #[]), #[]⟩
noncomputable def o_1425 : Obj := ⟨.none, none, (.func ⟨"_law_simplest", "_law_simplest", (fA (mS 49)), (fB (mS 49)), (fS (mS 49)), 0, [], .none, .none, .none, .none, none, .none, .none, 0⟩), #[]⟩
noncomputable def o_1429 : Obj := ⟨.none, none, (.fields #[]), #[]⟩
noncomputable def o_1430 : Obj := ⟨.none, none, (.func ⟨"law", "law", (fA (mS 50)), (fB (mS 50)), (fS (mS 50)), 0, [], .none, .none, .none, .none, none, .none, .none, 0⟩), #[]⟩
noncomputable def o_1453 (P : Params) : Obj := ⟨(.type "dict"), none, (.dict (List.toArray ((eN P "__name__" 1 (.str "builtins" 160)) :: (eN P "__doc__" 2 (.builtin "builtins.__doc__:str#opaque")) :: (eN P "__package__" 3 (.builtin "builtins.__package__:str#opaque")) :: (eN P "__loader__" 4 (.builtin "builtins.__loader__:shared#opaque")) :: (eN P "__spec__" 5 (.builtin "builtins.__spec__#opaque")) :: (eN P "__build_class__" 6 (.builtin "__build_class__")) :: (eN P "__import__" 7 (.builtin "__import__")) :: (eN P "abs" 8 (.builtin "abs")) :: (eN P "all" 9 (.builtin "all")) :: (eN P "any" 10 (.builtin "any")) :: (eN P "ascii" 11 (.builtin "ascii")) :: (eN P "bin" 12 (.builtin "bin")) :: (eN P "breakpoint" 13 (.builtin "breakpoint")) :: (eN P "callable" 14 (.builtin "callable")) :: (eN P "chr" 15 (.builtin "chr")) :: (eN P "compile" 16 (.builtin "compile")) :: (eN P "delattr" 17 (.builtin "delattr")) :: (eN P "dir" 18 (.builtin "dir")) :: (eN P "divmod" 19 (.builtin "divmod")) :: (eN P "eval" 20 (.builtin "eval")) :: (eN P "exec" 21 (.builtin "exec")) :: (eN P "format" 22 (.builtin "format")) :: (eN P "getattr" 23 (.builtin "getattr")) :: (eN P "globals" 24 (.builtin "globals")) :: (eN P "hasattr" 25 (.builtin "hasattr")) :: (eN P "hash" 26 (.builtin "hash")) :: (eN P "hex" 27 (.builtin "hex")) :: (eN P "id" 28 (.builtin "id")) :: (eN P "input" 29 (.builtin "input")) :: (eN P "isinstance" 30 (.builtin "isinstance")) :: (eN P "issubclass" 31 (.builtin "issubclass")) :: (eN P "iter" 32 (.builtin "iter")) :: (eN P "aiter" 33 (.builtin "aiter")) :: (eN P "len" 34 (.builtin "len")) :: (eN P "locals" 35 (.builtin "locals")) :: (eN P "max" 36 (.builtin "max")) :: (eN P "min" 37 (.builtin "min")) :: (eN P "next" 38 (.builtin "next")) :: (eN P "anext" 39 (.builtin "anext")) :: (eN P "oct" 40 (.builtin "oct")) :: (eN P "ord" 41 (.builtin "ord")) :: (eN P "pow" 42 (.builtin "pow")) :: (eN P "print" 43 (.builtin "print")) :: (eN P "repr" 44 (.builtin "repr")) :: (eN P "round" 45 (.builtin "round")) :: (eN P "setattr" 46 (.builtin "setattr")) :: (eN P "sorted" 47 (.builtin "sorted")) :: (eN P "sum" 48 (.builtin "sum")) :: (eN P "vars" 49 (.builtin "vars")) :: (eN P "None" 50 .none) :: (eN P "Ellipsis" 51 .ellipsis) :: (eN P "NotImplemented" 52 .notImplemented) :: (eN P "False" 53 (.bool false)) :: (eN P "True" 54 (.bool true)) :: (eN P "bool" 55 (.type "bool")) :: (eN P "memoryview" 56 (.type "memoryview")) :: (eN P "bytearray" 57 (.type "bytearray")) :: (eN P "bytes" 58 (.type "bytes")) :: (eN P "classmethod" 59 (.type "classmethod")) :: (eN P "complex" 60 (.type "complex")) :: (eN P "dict" 61 (.type "dict")) :: (eN P "enumerate" 62 (.type "enumerate")) :: (eN P "filter" 63 (.type "filter")) :: (eN P "float" 64 (.type "float")) :: (eN P "frozenset" 65 (.type "frozenset")) :: (eN P "property" 66 (.type "property")) :: (eN P "int" 67 (.type "int")) :: (eN P "list" 68 (.type "list")) :: (eN P "map" 69 (.type "map")) :: (eN P "object" 70 (.type "object")) :: (eN P "range" 71 (.type "range")) :: (eN P "reversed" 72 (.type "reversed")) :: (eN P "set" 73 (.type "set")) :: (eN P "slice" 74 (.type "slice")) :: (eN P "staticmethod" 75 (.type "staticmethod")) :: (eN P "str" 76 (.type "str")) :: (eN P "super" 77 (.type "super")) :: (eN P "tuple" 78 (.type "tuple")) :: (eN P "type" 79 (.type "type")) :: (eN P "zip" 80 (.type "zip")) :: (eN P "__debug__" 81 (.bool true)) :: (eN P "BaseException" 82 (.type "BaseException")) :: (eN P "BaseExceptionGroup" 83 (.type "BaseExceptionGroup")) :: (eN P "Exception" 84 (.type "Exception")) :: (eN P "GeneratorExit" 85 (.type "GeneratorExit")) :: (eN P "KeyboardInterrupt" 86 (.type "KeyboardInterrupt")) :: (eN P "SystemExit" 87 (.type "SystemExit")) :: (eN P "ArithmeticError" 88 (.type "ArithmeticError")) :: (eN P "AssertionError" 89 (.type "AssertionError")) :: (eN P "AttributeError" 90 (.type "AttributeError")) :: (eN P "BufferError" 91 (.type "BufferError")) :: (eN P "EOFError" 92 (.type "EOFError")) :: (eN P "ImportError" 93 (.type "ImportError")) :: (eN P "LookupError" 94 (.type "LookupError")) :: (eN P "MemoryError" 95 (.type "MemoryError")) :: (eN P "NameError" 96 (.type "NameError")) :: (eN P "OSError" 97 (.type "OSError")) :: (eN P "ReferenceError" 98 (.type "ReferenceError")) :: (eN P "RuntimeError" 99 (.type "RuntimeError")) :: (eN P "StopAsyncIteration" 100 (.type "StopAsyncIteration")) :: (eN P "StopIteration" 101 (.type "StopIteration")) :: (eN P "SyntaxError" 102 (.type "SyntaxError")) :: (eN P "SystemError" 103 (.type "SystemError")) :: (eN P "TypeError" 104 (.type "TypeError")) :: (eN P "ValueError" 105 (.type "ValueError")) :: (eN P "Warning" 106 (.type "Warning")) :: (eN P "FloatingPointError" 107 (.type "FloatingPointError")) :: (eN P "OverflowError" 108 (.type "OverflowError")) :: (eN P "ZeroDivisionError" 109 (.type "ZeroDivisionError")) :: (eN P "BytesWarning" 110 (.type "BytesWarning")) :: (eN P "DeprecationWarning" 111 (.type "DeprecationWarning")) :: (eN P "EncodingWarning" 112 (.type "EncodingWarning")) :: (eN P "FutureWarning" 113 (.type "FutureWarning")) :: (eN P "ImportWarning" 114 (.type "ImportWarning")) :: (eN P "PendingDeprecationWarning" 115 (.type "PendingDeprecationWarning")) :: (eN P "ResourceWarning" 116 (.type "ResourceWarning")) :: (eN P "RuntimeWarning" 117 (.type "RuntimeWarning")) :: (eN P "SyntaxWarning" 118 (.type "SyntaxWarning")) :: (eN P "UnicodeWarning" 119 (.type "UnicodeWarning")) :: (eN P "UserWarning" 120 (.type "UserWarning")) :: (eN P "BlockingIOError" 121 (.type "BlockingIOError")) :: (eN P "ChildProcessError" 122 (.type "ChildProcessError")) :: (eN P "ConnectionError" 123 (.type "ConnectionError")) :: (eN P "FileExistsError" 124 (.type "FileExistsError")) :: (eN P "FileNotFoundError" 125 (.type "FileNotFoundError")) :: (eN P "InterruptedError" 126 (.type "InterruptedError")) :: (eN P "IsADirectoryError" 127 (.type "IsADirectoryError")) :: (eN P "NotADirectoryError" 128 (.type "NotADirectoryError")) :: (eN P "PermissionError" 129 (.type "PermissionError")) :: (eN P "ProcessLookupError" 130 (.type "ProcessLookupError")) :: (eN P "TimeoutError" 131 (.type "TimeoutError")) :: (eN P "IndentationError" 132 (.type "IndentationError")) :: (eN P "_IncompleteInputError" 133 (.type "_IncompleteInputError")) :: (eN P "IndexError" 134 (.type "IndexError")) :: (eN P "KeyError" 135 (.type "KeyError")) :: (eN P "ModuleNotFoundError" 136 (.type "ModuleNotFoundError")) :: (eN P "NotImplementedError" 137 (.type "NotImplementedError")) :: (eN P "PythonFinalizationError" 138 (.type "PythonFinalizationError")) :: (eN P "RecursionError" 139 (.type "RecursionError")) :: (eN P "UnboundLocalError" 140 (.type "UnboundLocalError")) :: (eN P "UnicodeError" 141 (.type "UnicodeError")) :: (eN P "BrokenPipeError" 142 (.type "BrokenPipeError")) :: (eN P "ConnectionAbortedError" 143 (.type "ConnectionAbortedError")) :: (eN P "ConnectionRefusedError" 144 (.type "ConnectionRefusedError")) :: (eN P "ConnectionResetError" 145 (.type "ConnectionResetError")) :: (eN P "TabError" 146 (.type "TabError")) :: (eN P "UnicodeDecodeError" 147 (.type "UnicodeDecodeError")) :: (eN P "UnicodeEncodeError" 148 (.type "UnicodeEncodeError")) :: (eN P "UnicodeTranslateError" 149 (.type "UnicodeTranslateError")) :: (eN P "ExceptionGroup" 150 (.type "ExceptionGroup")) :: (eN P "EnvironmentError" 151 (.type "OSError")) :: (eN P "IOError" 152 (.type "OSError")) :: (eN P "open" 153 (.builtin "open")) :: (eN P "quit" 154 (.builtin "builtins.quit#opaque")) :: (eN P "exit" 155 (.builtin "builtins.exit#opaque")) :: (eN P "copyright" 156 (.builtin "builtins.copyright#opaque")) :: (eN P "credits" 157 (.builtin "builtins.credits#opaque")) :: (eN P "license" 158 (.builtin "builtins.license#opaque")) :: (eN P "help" 159 (.builtin "builtins.help#opaque")) :: [])) 159), #[]⟩
noncomputable def o_1456 : Obj := ⟨(.type "module"), (some 0), .plain, #[]⟩
noncomputable def o_1457 : Obj := ⟨(.type "module"), (some 3), .plain, #[]⟩
noncomputable def o_1458 : Obj := ⟨(.type "dict"), none, (.dict #[] 0), #[]⟩
noncomputable def o_1460 : Obj := ⟨(.type "tuple"), none, (.seq #[] 0), #[]⟩
noncomputable def o_1461 : Obj := ⟨.none, none, (.fields #[]), #[]⟩
noncomputable def o_1462 : Obj := ⟨(.type "code"), none, (.fields (List.toArray [(.str "<module>" 176), (.str "<module>" 177), (.str "/claim/cut.py" 178), (.int 1 0), (.int 0 0), (.int 0 0), (.int 0 0), (.int 0 0), (.ref 7), (.bool false), (.int 175 0), (.ref 8), .none, .none, .none, .none, (.int 179 0), (.int 1 0), (.str "/claim/cut.py" 180)])), #[]⟩
noncomputable def o_1463 : Obj := ⟨(.type "frame"), none, .plain, (List.toArray [(some (.ref 9)), (some (.ref 3)), (some (.ref 3)), none, (some (.str "__main__" 164)), none, (some (.ref 0))])⟩
noncomputable def o_1464 : Obj := ⟨(.type "tuple"), none, (.seq (List.toArray [(.str "deque" 182)]) 0), #[]⟩
noncomputable def o_1467 : Obj := ⟨(.type "module"), (some 12), .plain, #[]⟩
noncomputable def o_1472 : Obj := ⟨(.type "type"), none, (.cls ⟨"BuiltinImporter", [(.type "object")], [(.ref 15), (.type "object")], 14, "BuiltinImporter", true, [], [], false, none, false⟩), #[]⟩
noncomputable def o_1473 : Obj := ⟨(.type "tuple"), none, (.seq #[] 0), #[]⟩
noncomputable def o_1475 (P : Params) : Obj := ⟨(.type "dict"), none, (.dict (List.toArray [(eN P "__module__" 191 (.str "_frozen_importlib" 188)), (eN P "__firstlineno__" 192 (.int 971 189)), (eN P "__doc__" 193 (.builtin "_frozen_importlib.BuiltinImporter.__doc__:str#opaque")), (eN P "_ORIGIN" 194 (.str "built-in" 190)), (eN P "find_spec" 195 (.builtin "_frozen_importlib.BuiltinImporter.find_spec#opaque")), (eN P "create_module" 196 (.builtin "_frozen_importlib.BuiltinImporter.create_module#opaque")), (eN P "exec_module" 197 (.builtin "_frozen_importlib.BuiltinImporter.exec_module#opaque")), (eN P "get_code" 198 (.builtin "_frozen_importlib.BuiltinImporter.get_code#opaque")), (eN P "get_source" 199 (.builtin "_frozen_importlib.BuiltinImporter.get_source#opaque")), (eN P "is_package" 200 (.builtin "_frozen_importlib.BuiltinImporter.is_package#opaque")), (eN P "load_module" 201 (.builtin "_frozen_importlib.BuiltinImporter.load_module#opaque")), (eN P "__static_attributes__" 202 (.ref 16)), (eN P "__dict__" 204 (.ref 17)), (eN P "__weakref__" 206 (.ref 18))]) 14), #[]⟩
noncomputable def o_1476 : Obj := ⟨(.type "getset_descriptor"), none, (.fields (List.toArray [(.str "__dict__" 203), (.ref 15), (.builtin "function.__dict__"), (.builtin "function.__dict__#set")])), #[]⟩
noncomputable def o_1477 : Obj := ⟨(.type "getset_descriptor"), none, (.fields (List.toArray [(.str "__weakref__" 205), (.ref 15), (.builtin "ExceptionGroup.__weakref__"), .none])), #[]⟩
noncomputable def o_1479 : Obj := ⟨(.type "list"), none, (.seq #[] 0), #[]⟩
noncomputable def o_1485 : Obj := ⟨(.type "type"), none, (.cls ⟨"ModuleSpec", [(.type "object")], [(.ref 23), (.type "object")], 22, "ModuleSpec", true, [], [], false, none, false⟩), #[]⟩
noncomputable def o_1486 : Obj := ⟨(.type "tuple"), none, (.seq (List.toArray [(.str "_cached" 221), (.str "_set_fileattr" 222), (.str "_uninitialized_submodules" 223), (.str "loader" 224), (.str "loader_state" 225), (.str "name" 226), (.str "origin" 227), (.str "submodule_search_locations" 228)]) 0), #[]⟩
noncomputable def o_1487 : Obj := ⟨.none, none, (.seq (List.toArray [(.int 14 0), (.str "\x06¿\n__module__\x06¼\x11_frozen_importlib\x06À\x0f__firstlineno__\x04½\x00ϋ\x06Á\x07__doc__\t4_frozen_importlib.BuiltinImporter.__doc__:str#opaque\x06Â\x07_ORIGIN\x06¾\x08built-in\x06Ã\tfind_spec\t2_frozen_importlib.BuiltinImporter.find_spec#opaque\x06Ä\x0dcreate_module\t6_frozen_importlib.BuiltinImporter.create_module#opaque\x06Å\x0bexec_module\t4_frozen_importlib.BuiltinImporter.exec_module#opaque\x06Æ\x08get_code\t1_frozen_importlib.BuiltinImporter.get_code#opaque\x06Ç\nget_source\t3_frozen_importlib.BuiltinImporter.get_source#opaque\x06È\nis_package\t3_frozen_importlib.BuiltinImporter.is_package#opaque\x06É\x0bload_module\t4_frozen_importlib.BuiltinImporter.load_module#opaque\x06Ê\x15__static_attributes__\x04\x00\x00\x10\x06Ì\x08__dict__\x04\x00\x00\x11\x06Î\x0b__weakref__\x04\x00\x00\x12" 0), (.bool true), (.bool true), (.str "" 207), (.int 22 0), (.str "\x06å\n__module__\x06Û\x11_frozen_importlib\x06æ\x0f__firstlineno__\x04Ü\x00Ȳ\x06ç\x07__doc__\t/_frozen_importlib.ModuleSpec.__doc__:str#opaque\x06è\x08__init__\t,_frozen_importlib.ModuleSpec.__init__#opaque\x06é\x08__repr__\t,_frozen_importlib.ModuleSpec.__repr__#opaque\x06ê\x06__eq__\t*_frozen_importlib.ModuleSpec.__eq__#opaque\x06ë\x06cached\t*_frozen_importlib.ModuleSpec.cached#opaque\x06ì\x06parent\t*_frozen_importlib.ModuleSpec.parent#opaque\x06í\x0chas_location\t0_frozen_importlib.ModuleSpec.has_location#opaque\x06î\x15__static_attributes__\x04\x00\x00\x18\x06ð\x08__dict__\x04\x00\x00\x19\x06ò\x0b__weakref__\x04\x00\x00\x1a\x06ó\x08__hash__\x00" 0), (.bool true), (.bool true), (.str "" 244)]) 1), #[]⟩
noncomputable def o_1488 (P : Params) : Obj := ⟨(.type "dict"), none, (.dict (List.toArray [(eN P "__module__" 229 (.str "_frozen_importlib" 219)), (eN P "__firstlineno__" 230 (.int 562 220)), (eN P "__doc__" 231 (.builtin "_frozen_importlib.ModuleSpec.__doc__:str#opaque")), (eN P "__init__" 232 (.builtin "_frozen_importlib.ModuleSpec.__init__#opaque")), (eN P "__repr__" 233 (.builtin "_frozen_importlib.ModuleSpec.__repr__#opaque")), (eN P "__eq__" 234 (.builtin "_frozen_importlib.ModuleSpec.__eq__#opaque")), (eN P "cached" 235 (.builtin "_frozen_importlib.ModuleSpec.cached#opaque")), (eN P "parent" 236 (.builtin "_frozen_importlib.ModuleSpec.parent#opaque")), (eN P "has_location" 237 (.builtin "_frozen_importlib.ModuleSpec.has_location#opaque")), (eN P "__static_attributes__" 238 (.ref 24)), (eN P "__dict__" 240 (.ref 25)), (eN P "__weakref__" 242 (.ref 26)), (eN P "__hash__" 243 .none)]) 13), #[]⟩
noncomputable def o_1489 : Obj := ⟨(.type "getset_descriptor"), none, (.fields (List.toArray [(.str "__dict__" 239), (.ref 23), (.builtin "function.__dict__"), (.builtin "function.__dict__#set")])), #[]⟩
noncomputable def o_1490 : Obj := ⟨(.type "getset_descriptor"), none, (.fields (List.toArray [(.str "__weakref__" 241), (.ref 23), (.builtin "ExceptionGroup.__weakref__"), .none])), #[]⟩
noncomputable def o_1491 (P : Params) : Obj := ⟨(.type "dict"), none, (.dict (List.toArray [(eN P "builtins" 162 (.ref 4)), (eN P "__main__" 163 (.ref 5)), (eN P "_collections" 246 (.ref 13))]) 3), #[]⟩
noncomputable def o_1494 : Obj := ⟨(.ref 23), (some 21), .plain, #[]⟩
noncomputable def o_1496 (P : Params) : Obj := ⟨(.type "dict"), none, (.dict (List.toArray [(eN P "__name__" 250 (.str "_collections" 249)), (eN P "__doc__" 251 (.builtin "_collections.__doc__:str#opaque")), (eN P "__package__" 253 (.str "" 252)), (eN P "__loader__" 254 (.ref 15)), (eN P "__spec__" 255 (.ref 27)), (eN P "_count_elements" 256 (.builtin "_collections._count_elements")), (eN P "deque" 257 (.type "collections.deque")), (eN P "defaultdict" 258 (.type "collections.defaultdict")), (eN P "_deque_iterator" 259 (.type "collections._deque_iterator")), (eN P "_deque_reverse_iterator" 260 (.type "collections._deque_reverse_iterator")), (eN P "_tuplegetter" 261 (.type "collections._tuplegetter")), (eN P "OrderedDict" 262 (.type "collections.OrderedDict"))]) 12), #[]⟩
noncomputable def o_1497 (P : Params) : Obj := ⟨.none, none, (.dict (List.toArray [(eN P "\x69mport.loaded._collections" 185 (.bool true)), (eN P "class._frozen_importlib.BuiltinImporter" 187 (.ref 15)), (eN P "watched.\x69mport" 208 (.ref 19)), (eN P "class._frozen_importlib.ModuleSpec" 218 (.ref 23)), (eN P "sys.modules.booked-epoch" 247 (.int 3 0)), (eN P "sys.modules.landed._collections" 248 (.bool true)), (eN P "\x69mport.later-laid._collections" 263 (.bool true)), (eN P "watched.library" 265 (.ref 28)), (eN P "watched.library-objects" 0 (.str "\x0d" 0)), (eN P "watched.library-deep._collections" 266 (.str "\x04\x00\x00\x0c\x04\x00\x00\x0c\x04\x00\x00\x03\x04\x00\x00\x0c\x08\x04dict\x02" 0))]) 10), #[]⟩
noncomputable def o_1498 (P : Params) : Obj := ⟨(.type "dict"), none, (.dict (List.toArray [(eN P "name" 210 (.str "_collections" 209)), (eN P "loader" 211 (.ref 15)), (eN P "origin" 212 (.str "built-in" 186)), (eN P "loader_state" 213 .none), (eN P "submodule_search_locations" 214 .none), (eN P "_uninitialized_submodules" 215 (.ref 20)), (eN P "_set_fileattr" 216 (.bool false)), (eN P "_cached" 217 .none), (eN P "_initializing" 245 (.bool false))]) 9), #[]⟩
noncomputable def o_1499 : Obj := ⟨.none, none, (.seq (List.toArray [(.int 12 0), (.str "\x06ú\x08__name__\x06ù\x0c_collections\x06û\x07__doc__\t\x1f_collections.__doc__:str#opaque\x06ý\x0b__package__\x06ü\x00\x06þ\n__loader__\x04\x00\x00\x0f\x06ÿ\x08__spec__\x04\x00\x00\x1b\x06Ā\x0f_count_elements\t\x1c_collections._count_elements\x06ā\x05deque\x08\x11collections.deque\x06Ă\x0bdefaultdict\x08\x17collections.defaultdict\x06ă\x0f_deque_iterator\x08\x1bcollections._deque_iterator\x06Ą\x17_deque_reverse_iterator\x08#collections._deque_reverse_iterator\x06ą\x0c_tuplegetter\x08\x18collections._tuplegetter\x06Ć\x0bOrderedDict\x08\x17collections.OrderedDict" 0), (.bool true), (.bool false), (.str "_collections" 264)]) 0), #[]⟩
noncomputable def o_1502 (P : Params) : Obj := ⟨(.type "dict"), none, (.dict (List.toArray [(eN P "__name__" 165 (.str "__main__" 164)), (eN P "__doc__" 166 .none), (eN P "__package__" 167 .none), (eN P "__loader__" 168 (.builtin "__main__.__loader__#opaque")), (eN P "__spec__" 169 .none), (eN P "__annotations__" 170 (.ref 6)), (eN P "__builtins__" 171 (.ref 4)), (eN P "__file__" 173 (.str "/claim/cut.py" 172)), (eN P "__cached__" 174 .none), (eN P "deque" 272 (.type "collections.deque"))]) 10), #[]⟩
noncomputable def hd.tree_74 (P : Params) : BT := (.node (o_41 P) (.node (o_42 P) (.node (o_44 P) (.node o_48 (.node o_56 (.node o_72 .nil .nil) .nil) (.node o_64 .nil .nil)) (.node o_52 (.node o_60 .nil .nil) (.node o_68 .nil .nil))) (.node o_46 (.node o_50 (.node o_58 .nil .nil) (.node o_66 .nil .nil)) (.node o_54 (.node (o_62 P) .nil .nil) (.node o_70 .nil .nil)))) (.node (o_43 P) (.node o_45 (.node o_49 (.node o_57 (.node o_73 .nil .nil) .nil) (.node o_65 .nil .nil)) (.node (o_53 P) (.node o_61 .nil .nil) (.node o_69 .nil .nil))) (.node o_47 (.node o_51 (.node o_59 .nil .nil) (.node o_67 .nil .nil)) (.node (o_55 P) (.node (o_63 P) .nil .nil) (.node o_71 .nil .nil)))))
noncomputable def hd.tree_937 (P : Params) : BT := (.node (o_41 P) (.node (o_42 P) (.node (gO 1 P) (.node o_48 (.node o_56 (.node o_72 (.node (gO 20 P) (.node (gO 60 P) (.node (gO 129 P) (.node o_748 .nil .nil) (.node (gO 490 P) .nil .nil)) (.node o_447 (.node (gO 403 P) .nil .nil) .nil)) (.node o_246 (.node (gO 175 P) (.node o_812 .nil .nil) (.node (gO 536 P) .nil .nil)) (.node (gO 268 P) (.node (gO 449 P) .nil .nil) .nil))) (.node (gO 38 P) (.node (gO 82 P) (.node (gO 152 P) (.node o_780 .nil .nil) (.node (gO 513 P) .nil .nil)) (.node (gO 245 P) (.node o_908 .nil .nil) .nil)) (.node (gO 111 P) (.node o_415 (.node (gO 379 P) .nil .nil) (.node o_1404 .nil .nil)) (.node o_716 (.node o_1194 .nil .nil) .nil)))) (.node (gO 12 P) (.node (gO 26 P) (.node o_193 (.node o_335 (.node o_764 .nil .nil) (.node (gO 502 P) .nil .nil)) (.node (gO 233 P) (.node (gO 415 P) .nil .nil) .nil)) (.node o_265 (.node (gO 186 P) (.node (gO 368 P) .nil .nil) (.node (gO 548 P) .nil .nil)) (.node (gO 275 P) (.node (gO 460 P) .nil .nil) .nil))) (.node (gO 48 P) (.node (gO 90 P) (.node (gO 163 P) (.node (gO 345 P) .nil .nil) (.node (gO 525 P) .nil .nil)) (.node o_495 (.node (gO 438 P) .nil .nil) .nil)) (.node (gO 117 P) (.node o_431 (.node (gO 391 P) .nil .nil) (.node (gO 570 P) .nil .nil)) (.node (gO 298 P) (.node o_1212 .nil .nil) .nil))))) (.node o_64 (.node (gO 6 P) (.node o_119 (.node o_185 (.node (gO 135 P) (.node o_756 .nil .nil) (.node (gO 496 P) .nil .nil)) (.node (gO 227 P) (.node (gO 409 P) .nil .nil) .nil)) (.node (gO 103 P) (.node o_391 (.node (gO 362 P) .nil .nil) (.node o_1300 .nil .nil)) (.node o_519 (.node o_1170 .nil .nil) .nil))) (.node o_151 (.node (gO 88 P) (.node o_359 (.node (gO 339 P) .nil .nil) (.node (gO 519 P) .nil .nil)) (.node (gO 251 P) (.node (gO 432 P) .nil .nil) .nil)) (.node o_295 (.node o_423 (.node (gO 385 P) .nil .nil) (.node (gO 564 P) .nil .nil)) (.node (gO 292 P) (.node (gO 477 P) .nil .nil) .nil)))) (.node o_100 (.node (gO 32 P) (.node (gO 76 P) (.node (gO 146 P) (.node o_772 .nil .nil) (.node o_1252 .nil .nil)) (.node (gO 239 P) (.node (gO 421 P) .nil .nil) .nil)) (.node o_276 (.node (gO 192 P) (.node o_836 .nil .nil) (.node o_1396 .nil .nil)) (.node (gO 281 P) (.node (gO 466 P) .nil .nil) .nil))) (.node (gO 54 P) (.node o_238 (.node (gO 169 P) (.node (gO 351 P) .nil .nil) (.node o_1284 .nil .nil)) (.node (gO 262 P) (.node o_932 .nil .nil) .nil)) (.node (gO 123 P) (.node o_439 (.node (gO 397 P) .nil .nil) (.node (gO 576 P) .nil .nil)) (.node o_740 (.node (gO 484 P) .nil .nil) .nil)))))) (.node o_52 (.node o_60 (.node (gO 3 P) (.node o_115 (.node o_181 (.node o_323 (.node (gO 313 P) .nil .nil) (.node (gO 493 P) .nil .nil)) (.node o_451 (.node (gO 406 P) .nil .nil) .nil)) (.node (gO 99 P) (.node o_387 (.node (gO 359 P) .nil .nil) (.node (gO 540 P) .nil .nil)) (.node (gO 271 P) (.node o_1166 .nil .nil) .nil))) (.node (gO 40 P) (.node (gO 85 P) (.node (gO 155 P) (.node o_784 .nil .nil) (.node (gO 516 P) .nil .nil)) (.node (gO 248 P) (.node (gO 429 P) .nil .nil) .nil)) (.node o_291 (.node (gO 201 P) (.node (gO 382 P) .nil .nil) (.node o_1408 .nil .nil)) (.node (gO 289 P) (.node o_1198 .nil .nil) .nil)))) (.node o_96 (.node (gO 29 P) (.node o_197 (.node (gO 143 P) (.node (gO 325 P) .nil .nil) (.node o_1248 .nil .nil)) (.node (gO 236 P) (.node (gO 418 P) .nil .nil) .nil)) (.node (gO 107 P) (.node (gO 189 P) (.node (gO 371 P) .nil .nil) (.node o_1392 .nil .nil)) (.node (gO 278 P) (.node (gO 463 P) .nil .nil) .nil))) (.node (gO 51 P) (.node o_232 (.node (gO 166 P) (.node (gO 348 P) .nil .nil) (.node (gO 528 P) .nil .nil)) (.node (gO 259 P) (.node (gO 441 P) .nil .nil) .nil)) (.node (gO 120 P) (.node (gO 213 P) (.node (gO 394 P) .nil .nil) (.node (gO 573 P) .nil .nil)) (.node (gO 301 P) (.node (gO 481 P) .nil .nil) .nil))))) (.node o_68 (.node (gO 9 P) (.node (gO 23 P) (.node (gO 68 P) (.node o_331 (.node (gO 319 P) .nil .nil) (.node (gO 499 P) .nil .nil)) (.node (gO 230 P) (.node (gO 412 P) .nil .nil) .nil)) (.node o_261 (.node (gO 183 P) (.node (gO 365 P) .nil .nil) (.node (gO 545 P) .nil .nil)) (.node o_696 (.node (gO 457 P) .nil .nil) .nil))) (.node o_155 (.node o_224 (.node o_363 (.node (gO 342 P) .nil .nil) (.node (gO 522 P) .nil .nil)) (.node o_491 (.node (gO 435 P) .nil .nil) .nil)) (.node o_299 (.node (gO 207 P) (.node (gO 388 P) .nil .nil) (.node (gO 567 P) .nil .nil)) (.node (gO 295 P) (.node (o_1208 P) .nil .nil) .nil)))) (.node (gO 16 P) (.node o_139 (.node (gO 79 P) (.node (gO 149 P) (.node (gO 331 P) .nil .nil) (.node (gO 510 P) .nil .nil)) (.node (gO 242 P) (.node o_904 .nil .nil) .nil)) (.node o_280 (.node (gO 195 P) (.node o_840 .nil .nil) (.node (gO 556 P) .nil .nil)) (.node o_712 (.node (gO 469 P) .nil .nil) .nil))) (.node (gO 57 P) (.node (gO 93 P) (.node (gO 172 P) (.node o_808 .nil .nil) (.node o_1288 .nil .nil)) (.node (gO 265 P) (.node (gO 447 P) .nil .nil) .nil)) (.node (gO 126 P) (.node (gO 219 P) (.node (gO 400 P) .nil .nil) (.node (gO 578 P) .nil .nil)) (.node (gO 307 P) (.node (gO 487 P) .nil .nil) .nil))))))) (.node o_46 (.node o_50 (.node o_58 (.node (gO 2 P) (.node o_110 (.node (gO 61 P) (.node (gO 130 P) (.node (gO 311 P) .nil .nil) (.node o_1230 .nil .nil)) (.node (gO 223 P) (.node o_878 .nil .nil) .nil)) (.node (gO 97 P) (.node (gO 176 P) (.node (gO 358 P) .nil .nil) (.node (gO 538 P) .nil .nil)) (.node (gO 269 P) (.node (gO 450 P) .nil .nil) .nil))) (.node o_145 (.node o_211 (.node (gO 153 P) (.node (gO 335 P) .nil .nil) (.node o_1262 .nil .nil)) (.node o_481 (.node (gO 428 P) .nil .nil) .nil)) (.node o_286 (.node (gO 199 P) (.node (gO 381 P) .nil .nil) (.node (gO 560 P) .nil .nil)) (.node (gO 288 P) (.node (gO 473 P) .nil .nil) .nil)))) (.node (o_94 P) (.node o_129 (.node (gO 72 P) (.node (gO 142 P) (.node (gO 323 P) .nil .nil) (.node (gO 503 P) .nil .nil)) (.node (gO 235 P) (.node o_894 .nil .nil) .nil)) (.node (gO 105 P) (.node o_401 (.node (gO 369 P) .nil .nil) (.node (gO 549 P) .nil .nil)) (.node o_702 (.node o_1180 .nil .nil) .nil))) (.node (gO 50 P) (.node (gO 92 P) (.node (gO 165 P) (.node o_798 .nil .nil) (.node (gO 526 P) .nil .nil)) (.node (gO 258 P) (.node (gO 439 P) .nil .nil) .nil)) (.node (gO 119 P) (.node (gO 211 P) (.node o_862 .nil .nil) (.node o_1422 .nil .nil)) (.node (gO 299 P) (.node (gO 480 P) .nil .nil) .nil))))) (.node o_66 (.node o_86 (.node (gO 22 P) (.node (gO 67 P) (.node (gO 136 P) (.node (gO 317 P) .nil .nil) (.node o_1238 .nil .nil)) (.node (gO 229 P) (.node o_886 .nil .nil) .nil)) (.node o_256 (.node (gO 182 P) (.node o_822 .nil .nil) (.node o_1382 .nil .nil)) (.node o_694 (.node (gO 456 P) .nil .nil) .nil))) (.node (gO 44 P) (.node (o_222 P) (.node (gO 159 P) (.node (gO 341 P) .nil .nil) (.node (gO 520 P) .nil .nil)) (.node (gO 252 P) (.node o_918 .nil .nil) .nil)) (.node (gO 113 P) (.node (gO 205 P) (.node o_854 .nil .nil) (.node (gO 566 P) .nil .nil)) (.node o_726 (.node o_1206 .nil .nil) .nil)))) (.node (gO 15 P) (.node (gO 33 P) (.node (gO 78 P) (.node o_345 (.node (gO 329 P) .nil .nil) (.node (gO 509 P) .nil .nil)) (.node (gO 241 P) (.node (gO 422 P) .nil .nil) .nil)) (.node o_278 (.node (gO 193 P) (.node (gO 375 P) .nil .nil) (.node (gO 554 P) .nil .nil)) (.node (gO 282 P) (.node (gO 467 P) .nil .nil) .nil))) (.node o_171 (.node o_240 (.node o_377 (.node (gO 352 P) .nil .nil) (.node (gO 532 P) .nil .nil)) (.node o_505 (.node (gO 445 P) .nil .nil) .nil)) (.node o_313 (.node (gO 217 P) (.node o_870 .nil .nil) (.node o_1430 .nil .nil)) (.node (gO 305 P) (.node o_1222 .nil .nil) .nil)))))) (.node o_54 (.node (o_62 P) (.node o_82 (.node o_117 (.node (gO 64 P) (.node (gO 133 P) (.node (gO 314 P) .nil .nil) (.node (gO 494 P) .nil .nil)) (.node (gO 226 P) (.node (gO 407 P) .nil .nil) .nil)) (.node (gO 101 P) (.node (gO 179 P) (.node (gO 361 P) .nil .nil) (.node (gO 542 P) .nil .nil)) (.node (gO 273 P) (.node (gO 453 P) .nil .nil) .nil))) (.node (gO 41 P) (.node (gO 86 P) (.node (gO 156 P) (.node (gO 338 P) .nil .nil) (.node o_1266 .nil .nil)) (.node (gO 249 P) (.node (gO 431 P) .nil .nil) .nil)) (.node o_293 (.node (gO 202 P) (.node o_850 .nil .nil) (.node (gO 563 P) .nil .nil)) (.node (gO 291 P) (.node (gO 476 P) .nil .nil) .nil)))) (.node o_98 (.node (gO 30 P) (.node (gO 75 P) (.node (gO 145 P) (.node (gO 326 P) .nil .nil) (.node (gO 506 P) .nil .nil)) (.node o_469 (.node (gO 419 P) .nil .nil) .nil)) (.node o_271 (.node o_405 (.node (gO 372 P) .nil .nil) (.node (gO 552 P) .nil .nil)) (.node (gO 279 P) (.node o_1184 .nil .nil) .nil))) (.node o_167 (.node o_236 (.node o_373 (.node (gO 349 P) .nil .nil) (.node (gO 529 P) .nil .nil)) (.node (gO 261 P) (.node (gO 442 P) .nil .nil) .nil)) (.node o_309 (.node (gO 214 P) (.node (gO 395 P) .nil .nil) (.node (gO 574 P) .nil .nil)) (.node (gO 302 P) (.node o_1218 .nil .nil) .nil))))) (.node o_70 (.node (gO 10 P) (.node o_125 (.node (gO 70 P) (.node (gO 139 P) (.node (gO 320 P) .nil .nil) (.node (gO 500 P) .nil .nil)) (.node o_461 (.node (gO 413 P) .nil .nil) .nil)) (.node o_263 (.node (gO 185 P) (.node o_826 .nil .nil) (.node (gO 546 P) .nil .nil)) (.node o_698 (.node (gO 459 P) .nil .nil) .nil))) (.node (gO 47 P) (.node o_226 (.node (gO 162 P) (.node o_794 .nil .nil) (.node o_1274 .nil .nil)) (.node (gO 255 P) (.node o_922 .nil .nil) .nil)) (.node (gO 116 P) (.node (gO 208 P) (.node (gO 389 P) .nil .nil) (.node o_1418 .nil .nil)) (.node o_730 (.node o_1210 .nil .nil) .nil)))) (.node (gO 18 P) (.node (gO 36 P) (.node o_207 (.node o_349 (.node (gO 332 P) .nil .nil) (.node (gO 512 P) .nil .nil)) (.node o_477 (.node (gO 425 P) .nil .nil) .nil)) (.node (gO 109 P) (.node (gO 196 P) (.node (gO 378 P) .nil .nil) (.node (gO 557 P) .nil .nil)) (.node (gO 285 P) (.node (gO 470 P) .nil .nil) .nil))) (.node (gO 58 P) (.node (gO 94 P) (.node (gO 173 P) (.node (gO 355 P) .nil .nil) (.node (gO 535 P) .nil .nil)) (.node o_509 (.node o_938 .nil .nil) .nil)) (.node (gO 127 P) (.node (gO 220 P) (.node (gO 401 P) .nil .nil) .nil) (.node (gO 308 P) (.node (gO 488 P) .nil .nil) .nil)))))))) (.node (gO 0 P) (.node o_45 (.node o_49 (.node o_57 (.node o_73 (.node o_109 (.node o_178 (.node o_320 (.node (gO 310 P) .nil .nil) (.node (gO 491 P) .nil .nil)) (.node (gO 222 P) (.node (gO 404 P) .nil .nil) .nil)) (.node (gO 96 P) (.node o_384 (.node (gO 357 P) .nil .nil) (.node (gO 537 P) .nil .nil)) (.node o_512 (.node o_1163 .nil .nil) .nil))) (.node (gO 39 P) (.node (gO 83 P) (.node o_352 (.node (gO 334 P) .nil .nil) (.node (gO 514 P) .nil .nil)) (.node (gO 246 P) (.node (gO 427 P) .nil .nil) .nil)) (.node o_285 (.node (gO 198 P) (.node (gO 380 P) .nil .nil) (.node (gO 559 P) .nil .nil)) (.node (gO 287 P) (.node (gO 472 P) .nil .nil) .nil)))) (.node o_93 (.node (gO 27 P) (.node (gO 71 P) (.node (gO 141 P) (.node (gO 322 P) .nil .nil) (.node o_1245 .nil .nil)) (.node (gO 234 P) (.node (gO 416 P) .nil .nil) .nil)) (.node o_266 (.node (gO 187 P) (.node o_829 .nil .nil) (.node o_1389 .nil .nil)) (.node (gO 276 P) (.node (gO 461 P) .nil .nil) .nil))) (.node (gO 49 P) (.node (gO 91 P) (.node (gO 164 P) (.node (gO 346 P) .nil .nil) (.node o_1277 .nil .nil)) (.node (gO 257 P) (.node o_925 .nil .nil) .nil)) (.node (gO 118 P) (.node (gO 210 P) (.node (gO 392 P) .nil .nil) (.node (gO 571 P) .nil .nil)) (.node o_733 (.node (gO 479 P) .nil .nil) .nil))))) (.node o_65 (.node (gO 7 P) (.node o_120 (.node (gO 66 P) (.node o_328 (.node (gO 316 P) .nil .nil) (.node (gO 497 P) .nil .nil)) (.node (gO 228 P) (.node (gO 410 P) .nil .nil) .nil)) (.node o_255 (.node (gO 181 P) (.node (gO 363 P) .nil .nil) (.node (gO 543 P) .nil .nil)) (.node (gO 274 P) (.node (gO 455 P) .nil .nil) .nil))) (.node (gO 43 P) (.node o_221 (.node (gO 158 P) (.node (gO 340 P) .nil .nil) (.node o_1269 .nil .nil)) (.node o_488 (.node (gO 433 P) .nil .nil) .nil)) (.node o_296 (.node (gO 204 P) (.node (gO 386 P) .nil .nil) (.node (gO 565 P) .nil .nil)) (.node (gO 293 P) (.node (gO 478 P) .nil .nil) .nil)))) (.node (gO 14 P) (.node o_136 (.node (gO 77 P) (.node (gO 147 P) (.node (gO 328 P) .nil .nil) (.node (gO 508 P) .nil .nil)) (.node (gO 240 P) (.node o_901 .nil .nil) .nil)) (.node (o_277 P) (.node o_408 (.node (gO 374 P) .nil .nil) (.node o_1397 .nil .nil)) (.node o_709 (.node o_1187 .nil .nil) .nil))) (.node (gO 55 P) (.node o_239 (.node (gO 170 P) (.node o_805 .nil .nil) (.node (gO 531 P) .nil .nil)) (.node (gO 263 P) (.node (gO 444 P) .nil .nil) .nil)) (.node (gO 124 P) (.node (gO 216 P) (.node (gO 398 P) .nil .nil) (.node o_1429 .nil .nil)) (.node (gO 304 P) (.node (gO 485 P) .nil .nil) .nil)))))) (.node (o_53 P) (.node o_61 (.node (gO 4 P) (.node (o_116 P) (.node (gO 63 P) (.node (gO 132 P) (.node o_753 .nil .nil) (.node o_1233 .nil .nil)) (.node (gO 225 P) (.node o_881 .nil .nil) .nil)) (.node (gO 100 P) (.node (gO 178 P) (.node (gO 360 P) .nil .nil) (.node (gO 541 P) .nil .nil)) (.node (gO 272 P) (.node (gO 452 P) .nil .nil) .nil))) (.node o_148 (.node o_214 (.node o_356 (.node (gO 337 P) .nil .nil) (.node (gO 517 P) .nil .nil)) (.node o_484 (.node (gO 430 P) .nil .nil) .nil)) (.node (o_292 P) (.node o_420 (.node (gO 383 P) .nil .nil) (.node (gO 562 P) .nil .nil)) (.node (gO 290 P) (.node (gO 475 P) .nil .nil) .nil)))) (.node o_97 (.node o_132 (.node (gO 74 P) (.node (gO 144 P) (.node o_769 .nil .nil) (.node (gO 505 P) .nil .nil)) (.node (gO 237 P) (.node o_897 .nil .nil) .nil)) (.node o_270 (.node (gO 190 P) (.node o_833 .nil .nil) (.node (gO 551 P) .nil .nil)) (.node o_705 (.node (gO 464 P) .nil .nil) .nil))) (.node (gO 52 P) (.node o_235 (.node (gO 167 P) (.node o_801 .nil .nil) (.node o_1281 .nil .nil)) (.node (gO 260 P) (.node o_929 .nil .nil) .nil)) (.node (gO 121 P) (.node o_436 (.node o_865 .nil .nil) (.node o_1425 .nil .nil)) (.node o_737 (.node (gO 482 P) .nil .nil) .nil))))) (.node o_69 (.node o_89 (.node (gO 24 P) (.node (gO 69 P) (.node (gO 138 P) (.node o_761 .nil .nil) (.node o_1241 .nil .nil)) (.node (gO 231 P) (.node o_889 .nil .nil) .nil)) (.node (o_262 P) (.node (gO 184 P) (.node (gO 366 P) .nil .nil) (.node o_1385 .nil .nil)) (.node o_697 (.node (gO 458 P) .nil .nil) .nil))) (.node (gO 46 P) (.node o_225 (.node (gO 161 P) (.node (gO 343 P) .nil .nil) (.node (gO 523 P) .nil .nil)) (.node (gO 254 P) (.node (gO 436 P) .nil .nil) .nil)) (.node (gO 115 P) (.node o_428 (.node o_857 .nil .nil) (.node (gO 568 P) .nil .nil)) (.node (gO 296 P) (.node o_1209 .nil .nil) .nil)))) (.node (gO 17 P) (.node (gO 35 P) (.node (gO 80 P) (.node (gO 150 P) (.node o_777 .nil .nil) (.node (gO 511 P) .nil .nil)) (.node (gO 243 P) (.node (gO 424 P) .nil .nil) .nil)) (.node o_281 (.node o_412 (.node (gO 377 P) .nil .nil) (.node o_1401 .nil .nil)) (.node (gO 284 P) (.node o_1191 .nil .nil) .nil))) (.node o_174 (.node o_243 (.node o_380 (.node (gO 354 P) .nil .nil) (.node (gO 534 P) .nil .nil)) (.node (gO 266 P) (.node (gO 448 P) .nil .nil) .nil)) (.node o_316 (.node o_444 (.node o_873 .nil .nil) .nil) (.node o_745 (.node o_1225 .nil .nil) .nil))))))) (.node o_47 (.node o_51 (.node o_59 (.node o_79 (.node (gO 21 P) (.node (gO 62 P) (.node (gO 131 P) (.node (gO 312 P) .nil .nil) (.node (gO 492 P) .nil .nil)) (.node (gO 224 P) (.node (gO 405 P) .nil .nil) .nil)) (.node (gO 98 P) (.node (gO 177 P) (.node o_815 .nil .nil) (.node (gO 539 P) .nil .nil)) (.node (gO 270 P) (.node (gO 451 P) .nil .nil) .nil))) (.node o_146 (.node (gO 84 P) (.node (gO 154 P) (.node (gO 336 P) .nil .nil) (.node (gO 515 P) .nil .nil)) (.node (gO 247 P) (.node o_911 .nil .nil) .nil)) (.node (gO 112 P) (.node (gO 200 P) (.node o_847 .nil .nil) (.node (gO 561 P) .nil .nil)) (.node o_719 (.node (gO 474 P) .nil .nil) .nil)))) (.node o_95 (.node (gO 28 P) (.node (gO 73 P) (.node o_338 (.node (gO 324 P) .nil .nil) (.node (gO 504 P) .nil .nil)) (.node o_466 (.node (gO 417 P) .nil .nil) .nil)) (.node (gO 106 P) (.node (gO 188 P) (.node (gO 370 P) .nil .nil) (.node (gO 550 P) .nil .nil)) (.node (gO 277 P) (.node (gO 462 P) .nil .nil) .nil))) (.node o_164 (.node o_231 (.node o_370 (.node (gO 347 P) .nil .nil) (.node (gO 527 P) .nil .nil)) (.node o_498 (.node (gO 440 P) .nil .nil) .nil)) (.node o_306 (.node (gO 212 P) (.node (gO 393 P) .nil .nil) (.node (gO 572 P) .nil .nil)) (.node (gO 300 P) (.node o_1215 .nil .nil) .nil))))) (.node o_67 (.node (gO 8 P) (.node o_122 (.node o_188 (.node (gO 137 P) (.node (gO 318 P) .nil .nil) (.node (gO 498 P) .nil .nil)) (.node o_458 (.node (gO 411 P) .nil .nil) .nil)) (.node (gO 104 P) (.node o_394 (.node (gO 364 P) .nil .nil) (.node (gO 544 P) .nil .nil)) (.node (o_695 P) (.node o_1173 .nil .nil) .nil))) (.node (gO 45 P) (.node o_223 (.node (gO 160 P) (.node o_791 .nil .nil) (.node (gO 521 P) .nil .nil)) (.node (gO 253 P) (.node (gO 434 P) .nil .nil) .nil)) (.node (gO 114 P) (.node (gO 206 P) (.node (gO 387 P) .nil .nil) (.node o_1415 .nil .nil)) (.node (gO 294 P) (.node o_1207 .nil .nil) .nil)))) (.node o_103 (.node (gO 34 P) (.node o_204 (.node (gO 148 P) (.node (gO 330 P) .nil .nil) (.node o_1255 .nil .nil)) (.node o_474 (.node (gO 423 P) .nil .nil) .nil)) (.node o_279 (.node (gO 194 P) (.node (gO 376 P) .nil .nil) (.node (gO 555 P) .nil .nil)) (.node (gO 283 P) (.node (gO 468 P) .nil .nil) .nil))) (.node (gO 56 P) (.node o_241 (.node (gO 171 P) (.node (gO 353 P) .nil .nil) (.node (gO 533 P) .nil .nil)) (.node (gO 264 P) (.node (gO 446 P) .nil .nil) .nil)) (.node (gO 125 P) (.node (gO 218 P) (.node (gO 399 P) .nil .nil) (.node (gO 577 P) .nil .nil)) (.node (gO 306 P) (.node (gO 486 P) .nil .nil) .nil)))))) (.node (o_55 P) (.node (o_63 P) (.node (gO 5 P) (.node o_118 (.node (gO 65 P) (.node (gO 134 P) (.node (gO 315 P) .nil .nil) (.node (gO 495 P) .nil .nil)) (.node o_454 (.node (gO 408 P) .nil .nil) .nil)) (.node (gO 102 P) (.node (gO 180 P) (.node o_819 .nil .nil) (.node o_1299 .nil .nil)) (.node o_518 (.node (gO 454 P) .nil .nil) .nil))) (.node (gO 42 P) (.node (gO 87 P) (.node (gO 157 P) (.node o_787 .nil .nil) (.node (gO 518 P) .nil .nil)) (.node (gO 250 P) (.node o_915 .nil .nil) .nil)) (.node o_294 (.node (gO 203 P) (.node (gO 384 P) .nil .nil) (.node o_1411 .nil .nil)) (.node o_723 (.node o_1201 .nil .nil) .nil)))) (.node (gO 13 P) (.node (gO 31 P) (.node o_200 (.node o_342 (.node (gO 327 P) .nil .nil) (.node (gO 507 P) .nil .nil)) (.node (gO 238 P) (.node (gO 420 P) .nil .nil) .nil)) (.node (gO 108 P) (.node (gO 191 P) (.node (gO 373 P) .nil .nil) (.node (gO 553 P) .nil .nil)) (.node (gO 280 P) (.node (gO 465 P) .nil .nil) .nil))) (.node (gO 53 P) (.node (o_237 P) (.node (gO 168 P) (.node (gO 350 P) .nil .nil) (.node (gO 530 P) .nil .nil)) (.node o_502 (.node (gO 443 P) .nil .nil) .nil)) (.node (gO 122 P) (.node (gO 215 P) (.node (gO 396 P) .nil .nil) (.node (gO 575 P) .nil .nil)) (.node (gO 303 P) (.node (gO 483 P) .nil .nil) .nil))))) (.node o_1380 (.node (gO 11 P) (.node (gO 25 P) (.node o_192 (.node (gO 140 P) (.node (gO 321 P) .nil .nil) (.node (gO 501 P) .nil .nil)) (.node (gO 232 P) (.node (gO 414 P) .nil .nil) .nil)) (.node o_264 (.node o_398 (.node (gO 367 P) .nil .nil) (.node (gO 547 P) .nil .nil)) (.node o_699 (.node o_1177 .nil .nil) .nil))) (.node o_158 (.node (gO 89 P) (.node o_366 (.node (gO 344 P) .nil .nil) (.node (gO 524 P) .nil .nil)) (.node (gO 256 P) (.node (gO 437 P) .nil .nil) .nil)) (.node o_302 (.node (gO 209 P) (.node (gO 390 P) .nil .nil) (.node (gO 569 P) .nil .nil)) (.node (gO 297 P) (.node o_1211 .nil .nil) .nil)))) (.node (gO 19 P) (.node (gO 37 P) (.node (gO 81 P) (.node (gO 151 P) (.node (gO 333 P) .nil .nil) (.node o_1259 .nil .nil)) (.node (gO 244 P) (.node (gO 426 P) .nil .nil) .nil)) (.node (gO 110 P) (.node (gO 197 P) (.node o_843 .nil .nil) (.node (gO 558 P) .nil .nil)) (.node (gO 286 P) (.node (gO 471 P) .nil .nil) .nil))) (.node (gO 59 P) (.node (gO 95 P) (.node (gO 174 P) (.node (gO 356 P) .nil .nil) (.node o_1291 .nil .nil)) (.node (gO 267 P) (.node o_939 .nil .nil) .nil)) (.node (gO 128 P) (.node (gO 221 P) (.node (gO 402 P) .nil .nil) .nil) (.node (gO 309 P) (.node (gO 489 P) .nil .nil) .nil)))))))))
noncomputable def hd.heap_69 (P : Params) : Heap := ⟨⟨[(o_41 P), (o_42 P), (o_43 P), (o_44 P), o_45, o_46, o_47, o_48, o_49, o_50, o_51, o_52, (o_53 P), o_54, (o_55 P), o_56, o_57, o_58, o_59, o_60, o_61, (o_62 P), (o_63 P), o_64, o_65, o_66, o_67, o_68, o_69]⟩, ⟨[], [], [], 0, [], [], false, #[], [], 0, false, false, false, 0, [2000, 10, 10], false, 0, true, [], [], 0, false⟩⟩
noncomputable def hd.heap_73 (P : Params) : Heap := ⟨⟨[(o_41 P), (o_42 P), (o_43 P), (o_44 P), o_45, o_46, o_47, o_48, o_49, o_50, o_51, o_52, (o_53 P), o_54, (o_55 P), o_56, o_57, o_58, o_59, o_60, o_61, (o_62 P), (o_63 P), o_64, o_65, o_66, o_67, o_68, o_69, o_70, o_71, o_72, o_73]⟩, ⟨[], [], [], 0, [], [], false, #[], [], 0, false, false, false, 0, [2000, 10, 10], false, 0, true, [], [], 0, false⟩⟩
noncomputable def hd.heap_938 (P : Params) : Heap := ⟨⟨((o_41 P) :: (o_42 P) :: (gO 0 P) :: (gO 1 P) :: o_45 :: o_46 :: o_47 :: o_48 :: o_49 :: o_50 :: o_51 :: o_52 :: (o_53 P) :: o_54 :: (o_55 P) :: o_56 :: o_57 :: o_58 :: o_59 :: o_60 :: o_61 :: (o_62 P) :: (o_63 P) :: o_64 :: o_65 :: o_66 :: o_67 :: o_68 :: o_69 :: o_70 :: o_1380 :: o_72 :: o_73 :: (gO 2 P) :: o_79 :: (gO 3 P) :: (gO 4 P) :: o_82 :: (gO 5 P) :: (gO 6 P) :: (gO 7 P) :: o_86 :: (gO 8 P) :: (gO 9 P) :: o_89 :: (gO 10 P) :: (gO 11 P) :: (gO 12 P) :: o_93 :: (o_94 P) :: o_95 :: o_96 :: o_97 :: o_98 :: (gO 13 P) :: o_100 :: (gO 14 P) :: (gO 15 P) :: o_103 :: (gO 16 P) :: (gO 17 P) :: (gO 18 P) :: (gO 19 P) :: (gO 20 P) :: o_109 :: o_110 :: (gO 21 P) :: o_115 :: (o_116 P) :: o_117 :: o_118 :: o_119 :: o_120 :: (gO 22 P) :: o_122 :: (gO 23 P) :: (gO 24 P) :: o_125 :: (gO 25 P) :: (gO 26 P) :: (gO 27 P) :: o_129 :: (gO 28 P) :: (gO 29 P) :: o_132 :: (gO 30 P) :: (gO 31 P) :: (gO 32 P) :: o_136 :: (gO 33 P) :: (gO 34 P) :: o_139 :: (gO 35 P) :: (gO 36 P) :: (gO 37 P) :: (gO 38 P) :: (gO 39 P) :: o_145 :: o_146 :: (gO 40 P) :: o_148 :: (gO 41 P) :: (gO 42 P) :: o_151 :: (gO 43 P) :: (gO 44 P) :: (gO 45 P) :: o_155 :: (gO 46 P) :: (gO 47 P) :: o_158 :: (gO 48 P) :: (gO 49 P) :: (gO 50 P) :: o_164 :: (gO 51 P) :: (gO 52 P) :: o_167 :: (gO 53 P) :: (gO 54 P) :: (gO 55 P) :: o_171 :: (gO 56 P) :: (gO 57 P) :: o_174 :: (gO 58 P) :: (gO 59 P) :: (gO 60 P) :: o_178 :: (gO 61 P) :: (gO 62 P) :: o_181 :: (gO 63 P) :: (gO 64 P) :: (gO 65 P) :: o_185 :: (gO 66 P) :: (gO 67 P) :: o_188 :: (gO 68 P) :: (gO 69 P) :: (gO 70 P) :: o_192 :: o_193 :: (gO 71 P) :: (gO 72 P) :: (gO 73 P) :: o_197 :: (gO 74 P) :: (gO 75 P) :: o_200 :: (gO 76 P) :: (gO 77 P) :: (gO 78 P) :: o_204 :: (gO 79 P) :: (gO 80 P) :: o_207 :: (gO 81 P) :: (gO 82 P) :: (gO 83 P) :: o_211 :: (gO 84 P) :: (gO 85 P) :: o_214 :: (gO 86 P) :: (gO 87 P) :: (gO 88 P) :: o_221 :: (o_222 P) :: o_223 :: o_224 :: o_225 :: o_226 :: (gO 89 P) :: (gO 90 P) :: (gO 91 P) :: (gO 92 P) :: o_231 :: o_232 :: o_235 :: o_236 :: (o_237 P) :: o_238 :: o_239 :: o_240 :: o_241 :: (gO 93 P) :: o_243 :: (gO 94 P) :: (gO 95 P) :: o_246 :: (gO 96 P) :: (gO 97 P) :: (gO 98 P) :: (gO 99 P) :: (gO 100 P) :: (gO 101 P) :: (gO 102 P) :: (gO 103 P) :: o_255 :: o_256 :: (gO 104 P) :: o_261 :: (o_262 P) :: o_263 :: o_264 :: o_265 :: o_266 :: (gO 105 P) :: (gO 106 P) :: (gO 107 P) :: o_270 :: o_271 :: (gO 108 P) :: o_276 :: (o_277 P) :: o_278 :: o_279 :: o_280 :: o_281 :: (gO 109 P) :: (gO 110 P) :: (gO 111 P) :: o_285 :: o_286 :: (gO 112 P) :: o_291 :: (o_292 P) :: o_293 :: o_294 :: o_295 :: o_296 :: (gO 113 P) :: (gO 114 P) :: o_299 :: (gO 115 P) :: (gO 116 P) :: o_302 :: (gO 117 P) :: (gO 118 P) :: (gO 119 P) :: o_306 :: (gO 120 P) :: (gO 121 P) :: o_309 :: (gO 122 P) :: (gO 123 P) :: (gO 124 P) :: o_313 :: (gO 125 P) :: (gO 126 P) :: o_316 :: (gO 127 P) :: (gO 128 P) :: (gO 129 P) :: o_320 :: (gO 130 P) :: (gO 131 P) :: o_323 :: (gO 132 P) :: (gO 133 P) :: (gO 134 P) :: (gO 135 P) :: o_328 :: (gO 136 P) :: (gO 137 P) :: o_331 :: (gO 138 P) :: (gO 139 P) :: (gO 140 P) :: o_335 :: (gO 141 P) :: (gO 142 P) :: o_338 :: (gO 143 P) :: (gO 144 P) :: (gO 145 P) :: o_342 :: (gO 146 P) :: (gO 147 P) :: o_345 :: (gO 148 P) :: (gO 149 P) :: (gO 150 P) :: o_349 :: (gO 151 P) :: (gO 152 P) :: o_352 :: (gO 153 P) :: (gO 154 P) :: (gO 155 P) :: o_356 :: (gO 156 P) :: (gO 157 P) :: o_359 :: (gO 158 P) :: (gO 159 P) :: (gO 160 P) :: o_363 :: (gO 161 P) :: (gO 162 P) :: o_366 :: (gO 163 P) :: (gO 164 P) :: (gO 165 P) :: o_370 :: (gO 166 P) :: (gO 167 P) :: o_373 :: (gO 168 P) :: (gO 169 P) :: (gO 170 P) :: o_377 :: (gO 171 P) :: (gO 172 P) :: o_380 :: (gO 173 P) :: (gO 174 P) :: (gO 175 P) :: o_384 :: (gO 176 P) :: (gO 177 P) :: o_387 :: (gO 178 P) :: (gO 179 P) :: (gO 180 P) :: o_391 :: (gO 181 P) :: (gO 182 P) :: o_394 :: (gO 183 P) :: (gO 184 P) :: (gO 185 P) :: o_398 :: (gO 186 P) :: (gO 187 P) :: o_401 :: (gO 188 P) :: (gO 189 P) :: (gO 190 P) :: o_405 :: (gO 191 P) :: (gO 192 P) :: o_408 :: (gO 193 P) :: (gO 194 P) :: (gO 195 P) :: o_412 :: (gO 196 P) :: (gO 197 P) :: o_415 :: (gO 198 P) :: (gO 199 P) :: (gO 200 P) :: (gO 201 P) :: o_420 :: (gO 202 P) :: (gO 203 P) :: o_423 :: (gO 204 P) :: (gO 205 P) :: (gO 206 P) :: (gO 207 P) :: o_428 :: (gO 208 P) :: (gO 209 P) :: o_431 :: (gO 210 P) :: (gO 211 P) :: (gO 212 P) :: (gO 213 P) :: o_436 :: (gO 214 P) :: (gO 215 P) :: o_439 :: (gO 216 P) :: (gO 217 P) :: (gO 218 P) :: (gO 219 P) :: o_444 :: (gO 220 P) :: (gO 221 P) :: o_447 :: (gO 222 P) :: (gO 223 P) :: (gO 224 P) :: o_451 :: (gO 225 P) :: (gO 226 P) :: o_454 :: (gO 227 P) :: (gO 228 P) :: (gO 229 P) :: o_458 :: (gO 230 P) :: (gO 231 P) :: o_461 :: (gO 232 P) :: (gO 233 P) :: (gO 234 P) :: (gO 235 P) :: o_466 :: (gO 236 P) :: (gO 237 P) :: o_469 :: (gO 238 P) :: (gO 239 P) :: (gO 240 P) :: (gO 241 P) :: o_474 :: (gO 242 P) :: (gO 243 P) :: o_477 :: (gO 244 P) :: (gO 245 P) :: (gO 246 P) :: o_481 :: (gO 247 P) :: (gO 248 P) :: o_484 :: (gO 249 P) :: (gO 250 P) :: (gO 251 P) :: o_488 :: (gO 252 P) :: (gO 253 P) :: o_491 :: (gO 254 P) :: (gO 255 P) :: (gO 256 P) :: o_495 :: (gO 257 P) :: (gO 258 P) :: o_498 :: (gO 259 P) :: (gO 260 P) :: (gO 261 P) :: o_502 :: (gO 262 P) :: (gO 263 P) :: o_505 :: (gO 264 P) :: (gO 265 P) :: (gO 266 P) :: o_509 :: (gO 267 P) :: (gO 268 P) :: o_512 :: (gO 269 P) :: (gO 270 P) :: (gO 271 P) :: (gO 272 P) :: (gO 273 P) :: o_518 :: o_519 :: (gO 274 P) :: o_694 :: (o_695 P) :: o_696 :: o_697 :: o_698 :: o_699 :: (gO 275 P) :: (gO 276 P) :: o_702 :: (gO 277 P) :: (gO 278 P) :: o_705 :: (gO 279 P) :: (gO 280 P) :: (gO 281 P) :: o_709 :: (gO 282 P) :: (gO 283 P) :: o_712 :: (gO 284 P) :: (gO 285 P) :: (gO 286 P) :: o_716 :: (gO 287 P) :: (gO 288 P) :: o_719 :: (gO 289 P) :: (gO 290 P) :: (gO 291 P) :: o_723 :: (gO 292 P) :: (gO 293 P) :: o_726 :: (gO 294 P) :: (gO 295 P) :: (gO 296 P) :: o_730 :: (gO 297 P) :: (gO 298 P) :: o_733 :: (gO 299 P) :: (gO 300 P) :: (gO 301 P) :: o_737 :: (gO 302 P) :: (gO 303 P) :: o_740 :: (gO 304 P) :: (gO 305 P) :: (gO 306 P) :: (gO 307 P) :: o_745 :: (gO 308 P) :: (gO 309 P) :: o_748 :: (gO 310 P) :: (gO 311 P) :: (gO 312 P) :: (gO 313 P) :: o_753 :: (gO 314 P) :: (gO 315 P) :: o_756 :: (gO 316 P) :: (gO 317 P) :: (gO 318 P) :: (gO 319 P) :: o_761 :: (gO 320 P) :: (gO 321 P) :: o_764 :: (gO 322 P) :: (gO 323 P) :: (gO 324 P) :: (gO 325 P) :: o_769 :: (gO 326 P) :: (gO 327 P) :: o_772 :: (gO 328 P) :: (gO 329 P) :: (gO 330 P) :: (gO 331 P) :: o_777 :: (gO 332 P) :: (gO 333 P) :: o_780 :: (gO 334 P) :: (gO 335 P) :: (gO 336 P) :: o_784 :: (gO 337 P) :: (gO 338 P) :: o_787 :: (gO 339 P) :: (gO 340 P) :: (gO 341 P) :: o_791 :: (gO 342 P) :: (gO 343 P) :: o_794 :: (gO 344 P) :: (gO 345 P) :: (gO 346 P) :: o_798 :: (gO 347 P) :: (gO 348 P) :: o_801 :: (gO 349 P) :: (gO 350 P) :: (gO 351 P) :: o_805 :: (gO 352 P) :: (gO 353 P) :: o_808 :: (gO 354 P) :: (gO 355 P) :: (gO 356 P) :: o_812 :: (gO 357 P) :: (gO 358 P) :: o_815 :: (gO 359 P) :: (gO 360 P) :: (gO 361 P) :: o_819 :: (gO 362 P) :: (gO 363 P) :: o_822 :: (gO 364 P) :: (gO 365 P) :: (gO 366 P) :: o_826 :: (gO 367 P) :: (gO 368 P) :: o_829 :: (gO 369 P) :: (gO 370 P) :: (gO 371 P) :: o_833 :: (gO 372 P) :: (gO 373 P) :: o_836 :: (gO 374 P) :: (gO 375 P) :: (gO 376 P) :: o_840 :: (gO 377 P) :: (gO 378 P) :: o_843 :: (gO 379 P) :: (gO 380 P) :: (gO 381 P) :: o_847 :: (gO 382 P) :: (gO 383 P) :: o_850 :: (gO 384 P) :: (gO 385 P) :: (gO 386 P) :: o_854 :: (gO 387 P) :: (gO 388 P) :: o_857 :: (gO 389 P) :: (gO 390 P) :: (gO 391 P) :: (gO 392 P) :: o_862 :: (gO 393 P) :: (gO 394 P) :: o_865 :: (gO 395 P) :: (gO 396 P) :: (gO 397 P) :: (gO 398 P) :: o_870 :: (gO 399 P) :: (gO 400 P) :: o_873 :: (gO 401 P) :: (gO 402 P) :: (gO 403 P) :: (gO 404 P) :: o_878 :: (gO 405 P) :: (gO 406 P) :: o_881 :: (gO 407 P) :: (gO 408 P) :: (gO 409 P) :: (gO 410 P) :: o_886 :: (gO 411 P) :: (gO 412 P) :: o_889 :: (gO 413 P) :: (gO 414 P) :: (gO 415 P) :: (gO 416 P) :: o_894 :: (gO 417 P) :: (gO 418 P) :: o_897 :: (gO 419 P) :: (gO 420 P) :: (gO 421 P) :: o_901 :: (gO 422 P) :: (gO 423 P) :: o_904 :: (gO 424 P) :: (gO 425 P) :: (gO 426 P) :: o_908 :: (gO 427 P) :: (gO 428 P) :: o_911 :: (gO 429 P) :: (gO 430 P) :: (gO 431 P) :: o_915 :: (gO 432 P) :: (gO 433 P) :: o_918 :: (gO 434 P) :: (gO 435 P) :: (gO 436 P) :: o_922 :: (gO 437 P) :: (gO 438 P) :: o_925 :: (gO 439 P) :: (gO 440 P) :: (gO 441 P) :: o_929 :: (gO 442 P) :: (gO 443 P) :: o_932 :: (gO 444 P) :: (gO 445 P) :: (gO 446 P) :: (gO 447 P) :: (gO 448 P) :: o_938 :: o_939 :: (gO 449 P) :: o_1163 :: (gO 450 P) :: (gO 451 P) :: o_1166 :: (gO 452 P) :: (gO 453 P) :: (gO 454 P) :: o_1170 :: (gO 455 P) :: (gO 456 P) :: o_1173 :: (gO 457 P) :: (gO 458 P) :: (gO 459 P) :: o_1177 :: (gO 460 P) :: (gO 461 P) :: o_1180 :: (gO 462 P) :: (gO 463 P) :: (gO 464 P) :: o_1184 :: (gO 465 P) :: (gO 466 P) :: o_1187 :: (gO 467 P) :: (gO 468 P) :: (gO 469 P) :: o_1191 :: (gO 470 P) :: (gO 471 P) :: o_1194 :: (gO 472 P) :: (gO 473 P) :: (gO 474 P) :: o_1198 :: (gO 475 P) :: (gO 476 P) :: o_1201 :: (gO 477 P) :: (gO 478 P) :: o_1206 :: o_1207 :: (o_1208 P) :: o_1209 :: o_1210 :: o_1211 :: o_1212 :: (gO 479 P) :: (gO 480 P) :: o_1215 :: (gO 481 P) :: (gO 482 P) :: o_1218 :: (gO 483 P) :: (gO 484 P) :: (gO 485 P) :: o_1222 :: (gO 486 P) :: (gO 487 P) :: o_1225 :: (gO 488 P) :: (gO 489 P) :: (gO 490 P) :: (gO 491 P) :: o_1230 :: (gO 492 P) :: (gO 493 P) :: o_1233 :: (gO 494 P) :: (gO 495 P) :: (gO 496 P) :: (gO 497 P) :: o_1238 :: (gO 498 P) :: (gO 499 P) :: o_1241 :: (gO 500 P) :: (gO 501 P) :: (gO 502 P) :: o_1245 :: (gO 503 P) :: (gO 504 P) :: o_1248 :: (gO 505 P) :: (gO 506 P) :: (gO 507 P) :: o_1252 :: (gO 508 P) :: (gO 509 P) :: o_1255 :: (gO 510 P) :: (gO 511 P) :: (gO 512 P) :: o_1259 :: (gO 513 P) :: (gO 514 P) :: o_1262 :: (gO 515 P) :: (gO 516 P) :: (gO 517 P) :: o_1266 :: (gO 518 P) :: (gO 519 P) :: o_1269 :: (gO 520 P) :: (gO 521 P) :: (gO 522 P) :: (gO 523 P) :: o_1274 :: (gO 524 P) :: (gO 525 P) :: o_1277 :: (gO 526 P) :: (gO 527 P) :: (gO 528 P) :: o_1281 :: (gO 529 P) :: (gO 530 P) :: o_1284 :: (gO 531 P) :: (gO 532 P) :: (gO 533 P) :: o_1288 :: (gO 534 P) :: (gO 535 P) :: o_1291 :: (gO 536 P) :: (gO 537 P) :: (gO 538 P) :: (gO 539 P) :: (gO 540 P) :: (gO 541 P) :: (gO 542 P) :: o_1299 :: o_1300 :: (gO 543 P) :: o_1382 :: (gO 544 P) :: (gO 545 P) :: o_1385 :: (gO 546 P) :: (gO 547 P) :: (gO 548 P) :: o_1389 :: (gO 549 P) :: (gO 550 P) :: o_1392 :: (gO 551 P) :: (gO 552 P) :: (gO 553 P) :: o_1396 :: o_1397 :: (gO 554 P) :: (gO 555 P) :: (gO 556 P) :: o_1401 :: (gO 557 P) :: (gO 558 P) :: o_1404 :: (gO 559 P) :: (gO 560 P) :: (gO 561 P) :: o_1408 :: (gO 562 P) :: (gO 563 P) :: o_1411 :: (gO 564 P) :: (gO 565 P) :: (gO 566 P) :: o_1415 :: (gO 567 P) :: (gO 568 P) :: o_1418 :: (gO 569 P) :: (gO 570 P) :: (gO 571 P) :: o_1422 :: (gO 572 P) :: (gO 573 P) :: o_1425 :: (gO 574 P) :: (gO 575 P) :: (gO 576 P) :: o_1429 :: o_1430 :: (gO 577 P) :: (gO 578 P) :: [])⟩, ⟨[], [], [], 0, [], [], false, #[], [], 0, false, false, false, 0, [2000, 10, 10], false, 0, true, [], [], 0, false⟩⟩
noncomputable def hd.tree_969 (P : Params) : BT := (.node (o_1453 P) (.node (o_1491 P) (.node (o_1502 P) (.node o_1460 (.node o_1472 .nil .nil) (.node o_1485 .nil .nil)) (.node o_1464 (.node o_1487 .nil .nil) (.node o_1494 .nil .nil))) (.node o_1457 (.node o_1462 (.node o_1476 .nil .nil) (.node o_1489 .nil .nil)) (.node o_1467 (.node (o_1498 P) .nil .nil) .nil))) (.node (o_1497 P) (.node o_1456 (.node o_1461 (.node o_1473 .nil .nil) (.node o_1486 .nil .nil)) (.node (o_1496 P) (.node o_1479 .nil .nil) (.node o_1499 .nil .nil))) (.node o_1458 (.node o_1463 (.node o_1477 .nil .nil) (.node o_1490 .nil .nil)) (.node (o_1475 P) (.node (o_1488 P) .nil .nil) .nil))))
noncomputable abbrev hd.as_39 : List Addr := (hd.heap_39 { strHash := fun _ => 0, shareClass := fun _ => 0, mergeTok := id, idOf := fun _ => 0, idOfShared := fun _ _ => 0, followText := fun _ => false, idOfImm := fun _ => 0 }).map (·.1)
end
noncomputable def hd.view_39 : Program := { pE with main := { pE.main with body := [0, 1, 3, 5, 7, 8, 10, 13, 15, 17, 18, 19, 21, 23, 24, 25, 26, 27, 28, 29, 30, 32, 33, 34, 35, 36, 37, 38, 39, 41, 43, 44, 45, 46, 47, 48, 49, 50].filterMap (pE.main.body[·]?) } }
noncomputable def envM : Env := { scope := pE.main.scope, locals := mainNs, globals := mainNs, cells := [], code := .ref 31, frame := some 32 }
noncomputable abbrev cdM : Code := .body (behindTheImports pE) envM
noncomputable abbrev pos0 : Pos := ⟨0, 0, 0, 0⟩
theorem bigT : ∀ w : World, (fun os => segRunT treeTable pE w 29 (some (.ref 6)) 1 5838 ⟨hd.tree_74 w.params, 33, {}, #[], {}, 279, os⟩ (piecesOf (behindTheImports pE) envM cdM pos0 [topFrame pos0])) =
    fun os => some (Flow.next, (⟨hd.tree_937 w.params, 892, {}, #[], {}, 1383, os⟩ : SharedT), cdM, (⟨910, 0, 929, 57⟩ : Pos)) := by
  rw [PySem.W.Fast.te10110043849684766642, PySem.W.Fast.te14364793385576792824]
  intro w
  kernel_rfl
theorem impT : ∀ w : World, importEnds treeTable (opening pE) w 829 (start (opening pE)).1 (start (opening pE)).2 = some ⟨absHeap (hd.tree_969 w.params) 29 {}, #[], {}, 273, (start (opening pE)).1.os⟩ := by
  rw [PySem.W.Fast.te10274390034422433532, PySem.W.Fast.te14364793385576792824, PySem.W.Fast.te1435165496053646825]
  intro w
  kernel_rfl
theorem fenceT : ∀ w : World, (fun os => (fenceModules? pE ⟨absHeap (hd.tree_969 w.params) 29 {}, #[], {}, 273, os⟩).map (fun s => (s.heap, s.gens, s.drawn, s.toks))) = fun _ => some (hd.heap_69 w.params, #[], {}, 273) := by
  rw [PySem.W.Fast.te14289696077712309145]
  intro w
  kernel_rfl
theorem openT : ∀ w : World, (fencedOpening treeTable pE w 11800).map (fun s => (s.heap, s.gens, s.drawn, s.toks)) = some (hd.heap_69 w.params, #[], {}, 273) := open_cut (M := 829) (He := fun P => absHeap (hd.tree_969 P) 29 {}) (ge := #[]) (de := {}) (ke := 273) impT (by decide) fenceT
theorem sizeT : ∀ w : World, ((hd.heap_69 w.params).isNs mainGlobals && (#[] : Array GenState).size == 0, (hd.heap_69 w.params).objs.size, (hd.heap_69 w.params).nsMap mainGlobals "__annotations__") = (true, 29, some (Value.ref 6)) := by
  rw [PySem.W.Fast.te8920871248978507458]
  intro w
  kernel_rfl
theorem preT : ∀ w : World, (fun os => topGo treeTable pE w 29 (some (.ref 6)) 12 ⟨hd.heap_69 w.params, #[], {}, 273, os⟩ (topStub pE)) = fun os => some (⟨hd.heap_73 w.params, #[], {}, 279, os⟩, ⟨denote treeTable cdM, cdM, pos0, [topFrame pos0]⟩) := by
  rw [PySem.W.Fast.te15667345088766844465, PySem.W.Fast.te14364793385576792824, PySem.W.Fast.te11892475500146522536]
  intro w
  kernel_rfl
theorem blockT : ∀ w : World, (fun os => segRun treeTable pE w 29 (some (.ref 6)) 1 1 ⟨hd.heap_73 w.params, #[], {}, 279, os⟩ (blockOf (behindTheImports pE) envM cdM pos0 [topFrame pos0])) =
    fun os => some (Flow.next, (⟨hd.tree_74 w.params, 33, {}, #[], {}, 279, os⟩ : SharedT).abs, cdM, pos0) := by
  rw [PySem.W.Fast.te14374325043358763698, PySem.W.Fast.te14364793385576792824]
  intro w
  kernel_rfl
theorem finT : ∀ w : World, (fun os => topRun treeTable pE w 29 (some (.ref 6)) 2 (⟨hd.tree_937 w.params, 892, {}, #[], {}, 1383, os⟩ : SharedT).abs ⟨doneF .next, cdM, ⟨910, 0, 929, 57⟩, [topFrame pos0]⟩) = fun os => some ⟨hd.heap_938 w.params, #[], {}, 1383, os⟩ := by
  rw [PySem.W.Fast.te14082659384304107361, PySem.W.Fast.te14364793385576792824]
  intro w
  kernel_rfl
theorem runT (w : World) (os : OsState) : topRun treeTable pE w 29 (some (.ref 6)) (12 + (1 + (5838 + 2))) ⟨hd.heap_69 w.params, #[], {}, 273, os⟩ (topStub pE) = some ⟨hd.heap_938 w.params, #[], {}, 1383, os⟩ := by
  refine go_top (congrFun (preT w) os) ?_
  refine piece_block (congrFun (blockT w) os) ?_
  have k := piece_app (rest := []) (segRun_of (congrFun (bigT w) os)) (congrFun (finT w) os)
  rw [List.append_nil] at k
  exact k
noncomputable abbrev looseN : List Str := ["check_arg_types_genericpath", "join_posixpath", "UnsupportedOperation", "IOBase", "BufferedIOBase", "TextIOBase", "BytesIO", "StringIO", "check_arg_types_path", "join_path", "shlex"]
noncomputable abbrev hk : Hook := kHook hd.heap_39 hd.as_39 (fun _ => by kernel_rfl)
theorem look1 : ∀ w : World, (fun os : OsState => (staticsOk (importedModules pE.main.body) (hd.heap_69 w.params) (hd.heap_938 w.params) && namesBound pE (hd.heap_938 w.params) && gensDone ⟨hd.heap_938 w.params, #[], {}, 1383, os⟩ && laidKept (hd.heap_69 w.params) (hd.heap_938 w.params))) = fun _ => true := by
  rw [PySem.W.Fast.te5923862056798008813]
  intro w
  kernel_rfl
theorem look3 : ∀ w : World, (fun os : OsState => hk.obs ⟨hd.heap_938 w.params, #[], {}, 1383, os⟩) = fun _ => hk.val w := by
  intro w
  kernel_rfl
theorem look2 : ∀ w : World, (fun os : OsState => openSeen hd.view_39 looseN (importedModules pE.main.body) (fun s => xlAt hd.view_39 [] s && recOk (RowW.records (OpenRow.toRowW (OpenLaw.row PySem.Challenge.rw_ik0085_01))) s) true ⟨hd.heap_938 w.params, #[], {}, 1383, os⟩) = fun _ => openGood hd.view_39 looseN := by
  rw [PySem.W.Fast.te5923862056798008813, PySem.W.Fast.te4187177175401517315]
  intro w
  kernel_rfl
noncomputable abbrev XtN : Shared → Bool := fun s => xlAt hd.view_39 [] s && recOk (RowW.records (OpenRow.toRowW (OpenLaw.row PySem.Challenge.rw_ik0085_01))) s
theorem leftT : LeftO pE hd.view_39 looseN XtN hk.obs hk.val 11800 true :=
  LeftO.of_pieces (H₀ := hd.heap_69) (H₁ := hd.heap_938) (gs₀ := #[]) (gs₁ := #[]) (d₀ := {}) (d₁ := {}) (k₀ := 273) (k₁ := 1383) (m₀ := 29) (ann := some (.ref 6)) (M := 12 + (1 + (5838 + 2)))
    openT sizeT runT (by decide) fun w => funext fun os => looks_pair (congrFun (look1 w) os) (looks_pair (congrFun (look2 w) os) (congrFun (look3 w) os))
theorem said0 : OpenLaw.wellSaid PySem.Challenge.rw_ik0085_01 = true := by
  rw [PySem.W.Fast.te9446332074065402090]; kernel_rfl
noncomputable def digs : Nat → Nat → List Nat
  | 0, _ => []
  | k + 1, n => if n = 0 then [] else digs k (n / 16) ++ [n % 16]
structure Fr4 where
  t : Nat
  b : Nat
  o : Nat
  u : Nat
noncomputable def Fr4.step (f : Fr4) (d : Nat) : Fr4 := if d % 2 = 0 then ⟨f.t, f.b, f.t + f.o, f.b + f.u⟩ else ⟨f.t + f.o, f.b + f.u, f.o, f.u⟩
noncomputable def fr4 (ds : List Nat) : Fr4 := ds.foldl Fr4.step ⟨0, 1, 1, 0⟩
noncomputable def quots : Nat → Int → Int → List Int
  | 0, _, _ => []
  | k + 1, t, b => if b = 0 then [] else Int.fdiv t b :: quots k b (Int.fmod t b)
noncomputable def ceilAt (n d q : Int) : Int := -(Int.fdiv (-n * q) d)
structure Simple (ln ld hn hd T B : Int) : Prop where
  none : ∀ q, 1 ≤ q → q < B → hn * q < ceilAt ln ld q * hd
  found : ceilAt ln ld B * hd ≤ hn * B
  top : ceilAt ln ld B = T
  pos : 1 ≤ B
  small : B < 1000
noncomputable def SimpleOf (n1 d1 n2 d2 T B : Int) : Prop := if n2 * d1 < n1 * d2 then Simple n2 d2 n1 d1 T B else Simple n1 d1 n2 d2 T B
noncomputable def lens (xs : List Str) : List Int := xs.map fun x => (x.length : Int)
noncomputable def bump (l : List Int) : List Int := l.take (l.length - 1) ++ [l.getD (l.length - 1) 0 + 1]
noncomputable def oddStr (x : Str) : Bool := (x.cps[0]?).any fun c => decide (c ∈ (Str.ofString "BDFHJLNP").cps.toList)
noncomputable def lengthsOf : List Str → List Int
  | [] => bump [0]
  | x :: r => if oddStr x then bump (lens (x :: r)) else bump (0 :: lens (x :: r))
noncomputable def splitH0 (x : Str) : Str := Txt.slice x none (some (Txt.rfind x (Str.ofString "/") + 1))
noncomputable def splitTl (x : Str) : Str := Txt.slice x (some (Txt.rfind x (Str.ofString "/") + 1)) none
noncomputable def splitHd (x : Str) : Str := if ((splitH0 x).length : Int) = 0 then splitH0 x else if (splitH0 x != Txt.mul (Str.ofString "/") ((splitH0 x).length : Int)) = true then Txt.rstripChars (splitH0 x) (Str.ofString "/") else splitH0 x
noncomputable def nameS (c : Bool) : Str := if c then Str.ofString "ab" else Str.ofString "a"
inductive Climbs : Str → List Bool → Prop
  | root : Climbs (Str.ofString "/") []
  | up {x : Str} {c : Bool} {r : List Bool} : x ≠ Str.ofString "/" → x.length < 1000 → splitTl x = nameS c → Climbs (splitHd x) r → Climbs x (c :: r)
noncomputable def climbF (p : Int × Int) (c : Bool) : Int × Int := if c then (p.1 + p.2, p.2) else (p.1, p.2 + p.1)
noncomputable def climbTo (r : List Bool) : Int × Int := r.foldl climbF (1, 1)
noncomputable def slash : Str := Str.ofString "/"
noncomputable def joinStep (p : Str) (c : Bool) : Str := if Txt.endswith p slash then p ++ nameS c else p ++ (slash ++ nameS c)
noncomputable def joinTo (bs : List Bool) : Str := bs.foldl joinStep slash
noncomputable def bitsOf (xs : List Str) : List Bool := xs.flatMap fun x => List.replicate x.length (oddStr x)
noncomputable def apB (n : Nat) : List UInt8 := (digs 7 n).map fun d => UInt8.ofNat (65 + d)
noncomputable def wordL : List Nat := (Str.ofString "abcdfeghijklmnopqrstuvwxyzACEGIKMOQRSTUVWXYZ0123456789_~-./*?=").cps.toList
noncomputable def punctL : List Nat := (Str.ofString "BDFHJLNP").cps.toList
noncomputable def lexRun : Nat → List Nat → List Nat → List Nat × Bool × List Nat × List Nat
  | _, tok, [] => (tok, true, [], [])
  | 0, tok, c :: r => if c = 32 then lexRun 0 tok r else if c ∈ punctL then lexRun 2 [c] r else lexRun 1 [c] r
  | 1, tok, c :: r => if c = 32 then (tok, false, [], r) else if c ∈ punctL then (tok, false, [c], r) else lexRun 1 (tok ++ [c]) r
  | 2, tok, c :: r => if c = 32 then (tok, false, [], r) else if c ∈ punctL then lexRun 2 (tok ++ [c]) r else (tok, false, [c], r)
  | _, tok, c :: r => (tok, true, [], c :: r)
noncomputable def LineOk (x : Str) : Prop := ∀ c ∈ x.cps.toList, c = 32 ∨ c ∈ wordL ∨ c ∈ punctL
inductive Toks : Nat → List Nat → List (List Nat) → Prop
  | done {st : Nat} {inp p r : List Nat} : lexRun st [] inp = ([], true, p, r) → Toks st inp []
  | more {st : Nat} {inp t p r : List Nat} {e : Bool} {ts : List (List Nat)} : t ≠ [] → lexRun st [] inp = (t, e, p, r) → Toks (if e then 3 else 0) (p ++ r) ts → Toks st inp (t :: ts)
noncomputable def rowsOf : List (List Nat) → List (List (List Nat)) → List (List Nat) → List (List (List Nat))
  | [], front, last => front ++ [last]
  | t :: ts, front, last => if t = [120] then rowsOf ts (front ++ [last]) [] else rowsOf ts front (last ++ [t])
theorem gg {p : Prop} (h : ∀ g : Prop, (p → g) → g) : p := h p id
section

noncomputable abbrev loose0 : List Str := looseW hd.view_39
      [Str.ofString "check_arg_types_genericpath", Str.ofString "join_posixpath", Str.ofString "UnsupportedOperation",
        Str.ofString "IOBase", Str.ofString "BufferedIOBase", Str.ofString "TextIOBase", Str.ofString "BytesIO",
        Str.ofString "StringIO", Str.ofString "check_arg_types_path", Str.ofString "join_path", Str.ofString "shlex"]

noncomputable abbrev Post := Value → List (Addr × Obj) → Prop
noncomputable def Claim (w : World) (f : Addr) (D U : Nat) (news : List (Addr × Obj)) (vs : List Value) (P : Post) : Prop :=
  ∀ (mean : ExcName → Option Value) (mg mb : Str → Option Value) (dp un : Nat) (gd : Option (List Code)) (cn : Str) (cs : Scope) (a : Addr) (ccd : Value) (cl : List (Str × Addr)) (outer : List Env) (A₀ : Around) (base h₀ : Heap) (L : Addr) (m : Str → Option Value) (s : Shared) (Q E : Value → Shared → Prop),
    Below A₀ base outer h₀ → Fr h₀ L s.heap m → (hd.heap_39 w.params).In h₀ → News h₀ L s.heap news → Top hd.view_39 loose0 mean mg mb h₀ → cs.kind = .function →
    dp + D < recursionLimit → un + U < cLine →
    (∀ v h' tk' news', P v news' → Fr h₀ L h' m → News h₀ L h' news' → Q v { s with heap := h', toks := tk' }) →
    wpAny (model PySem.Challenge.rw_ik0085_01.row.prog w) (ktrTop dp un gd cn cs L a ccd cl outer) (call (.ref f) vs) Q E s
end
section
noncomputable abbrev tupOf (vs : List Value) : Obj := { cls := .type "tuple", data := .seq vs.toArray }
noncomputable def Hold (p : Prop) : Prop := p
theorem Hold.of {p : Prop} (h : Hold p) : p := h
theorem Hold.to {p : Prop} (h : p) : Hold p := h
theorem lookup_kst : ∀ (l : List (Str × Value)), (fun y => l.lookup y) = kstB (fun _ => none) l
  | [] => rfl
  | p :: r => by
    funext y
    show (match y == p.1 with | true => some p.2 | false => r.lookup y) = (if y = p.1 then some p.2 else kstB (fun _ => none) r y)
    rw [← lookup_kst r]
    by_cases h : y = p.1
    · simp [h]
    · have : (y == p.1) = false := by simpa using h
      simp [h, this]
theorem frLook {h₀ h : Heap} {L : Addr} {l : List (Str × Value)} (F : Fr h₀ L h (fun y => l.lookup y)) : Fr h₀ L h (kstB (fun _ => none) l) := by
  rw [← lookup_kst l]; exact F
theorem frTell {h₀ h : Heap} {L : Addr} {m : Str → Option Value} (F : Fr h₀ L h m) (ps : List (Str × Value)) (e : ∀ p ∈ ps, m p.1 = some p.2) : Fr h₀ L h (kstB m ps) := by
  have : kstB m ps = m := funext fun y => kstB_eq e fun _ => rfl
  rw [this]; exact F

section
variable {prog : Program} {w : World} {A : Around} {E : Value → Shared → Prop} {Q : Flow → Shared → Prop} {s : Shared} {env : Env} {h₀ : Heap} {L : Addr}

noncomputable def WEnd {σ : Type} (h₀ : Heap) (L : Addr) (s : Shared) (Led : σ → List (Addr × Obj)) (ps : σ → List (Str × Value)) (P : σ → Prop) (μ : σ → Nat) (c : σ) (s₂ : Shared) : Prop :=
  ∃ (c' : σ) (h' : Heap) (tk : Nat) (m' : Str → Option Value) (news' : List (Addr × Obj)), s₂ = { s with heap := h', toks := tk } ∧ Fr h₀ L h' m' ∧ News h₀ L h' news' ∧ (∀ p ∈ Led c', p ∈ news') ∧ (∀ p ∈ ps c', m' p.1 = some p.2) ∧ P c' ∧ μ c' < μ c
noncomputable def WPost {σ : Type} (h₀ : Heap) (L : Addr) (s : Shared) (Led : σ → List (Addr × Obj)) (ps : σ → List (Str × Value)) (P : σ → Prop) (μ : σ → Nat) (Q : Flow → Shared → Prop) (c : σ) (f : Flow) (s₂ : Shared) : Prop :=
  match f with
  | .ret v => Q (.ret v) s₂
  | .brk => Q .next s₂
  | _ => WEnd h₀ L s Led ps P μ c s₂
theorem wend {σ : Type} {Led : σ → List (Addr × Obj)} {ps : σ → List (Str × Value)} {P : σ → Prop} {μ : σ → Nat} {c : σ} {h' : Heap} {tk : Nat} {m' : Str → Option Value} {news' : List (Addr × Obj)} (c' : σ)
    (F : Fr h₀ L h' m') (N : News h₀ L h' news') (hn : ∀ p ∈ Led c', p ∈ news') (hk : ∀ p ∈ ps c', m' p.1 = some p.2) (hp : P c') (hm : μ c' < μ c) :
    WEnd h₀ L s Led ps P μ c { s with heap := h', toks := tk } := ⟨c', h', tk, m', news', rfl, F, N, hn, hk, hp, hm⟩
theorem wh {σ : Type} {test : PySem.Expr} {body : List Stmt} {pos : Pos} {m₀ : Str → Option Value} (Led : σ → List (Addr × Obj)) (ps : σ → List (Str × Value)) (P : σ → Prop) (μ : σ → Nat) (c₀ : σ)
    (F : Fr h₀ L s.heap m₀) (N : News h₀ L s.heap (Led c₀)) (hk : ∀ p ∈ ps c₀, m₀ p.1 = some p.2) (hp : P c₀)
    (turn : ∀ (c : σ) (u : Str → Option Value) h tk, P c → Fr h₀ L h (kstB u (ps c)) → News h₀ L h (Led c) →
      wpAny (model prog w) A (isTrue test env (eval test env)) (fun b s₂ =>
        if b = true then wpAny (model prog w) A (execs body env) (WPost h₀ L s Led ps P μ Q c) E s₂ else Q .next s₂) E { s with heap := h, toks := tk })
    (hE : PassesOwn (model prog w) A env E := by passes_own) :
    wpAny (model prog w) A (exec (.While test body [] pos) env) Q E s := by
  refine While_inv2 (fun n m nx => ∃ c : σ, nx = Led c ∧ μ c = n ∧ (∀ p ∈ ps c, m p.1 = some p.2) ∧ P c) F N ⟨c₀, rfl, rfl, hk, hp⟩ ?_ hE
  rintro n m₁ nx h tk F₁ N₁ ⟨c, hnx, hsz, h1, hp'⟩
  rw [hnx] at N₁
  rw [← hsz]
  refine wpAny_mono (turn c m₁ h tk hp' (frTell F₁ _ h1) N₁) (fun b s₂ p => ?_) fun _ _ x => x
  cases b with
  | false => simpa using p
  | true =>
    simp only [if_true] at p ⊢
    refine wpAny_mono p (fun f s₃ q => ?_) fun _ _ x => x
    cases f with
    | ret v => exact q
    | brk => exact q
    | next =>
      obtain ⟨c', h', tk', m', news', rfl, F', N', hn, hk9, hp9, hm9⟩ := q
      exact ⟨h', tk', m', Led c', μ c', rfl, F', fun p hp => N' p (hn p hp), hm9, c', rfl, rfl, hk9, hp9⟩
    | cont =>
      obtain ⟨c', h', tk', m', news', rfl, F', N', hn, hk9, hp9, hm9⟩ := q
      exact ⟨h', tk', m', Led c', μ c', rfl, F', fun p hp => N' p (hn p hp), hm9, c', rfl, rfl, hk9, hp9⟩

noncomputable def FEnd {σ : Type} (h₀ : Heap) (L : Addr) (s : Shared) (I : Addr) (oI : Obj) (Led : σ → List (Addr × Obj)) (ps : σ → List (Str × Value)) (P : σ → Prop) (s₂ : Shared) : Prop :=
  ∃ (c' : σ) (h' : Heap) (tk : Nat) (m' : Str → Option Value) (news' : List (Addr × Obj)), s₂ = { s with heap := h', toks := tk } ∧ Fr h₀ L h' m' ∧ News h₀ L h' news' ∧ (∀ p ∈ Led c', p ∈ news') ∧ (I, oI) ∈ news' ∧ (∀ p ∈ Led c', p.1 ≠ I) ∧ (∀ p ∈ ps c', m' p.1 = some p.2) ∧ P c'
noncomputable def FPost {σ : Type} (h₀ : Heap) (L : Addr) (s : Shared) (I : Addr) (oI : Obj) (Led : σ → List (Addr × Obj)) (ps : σ → List (Str × Value)) (P : σ → Prop) (Q : Flow → Shared → Prop) (f : Flow) (s₂ : Shared) : Prop :=
  match f with
  | .ret v => Q (.ret v) s₂
  | .brk => Q .next s₂
  | _ => FEnd h₀ L s I oI Led ps P s₂
theorem fend {σ : Type} {I : Addr} {oI : Obj} {Led : σ → List (Addr × Obj)} {ps : σ → List (Str × Value)} {P : σ → Prop} {h' : Heap} {tk : Nat} {m' : Str → Option Value} {news' : List (Addr × Obj)} (c' : σ)
    (F : Fr h₀ L h' m') (N : News h₀ L h' news') (hn : ∀ p ∈ Led c', p ∈ news') (hi : (I, oI) ∈ news') (ho : ∀ p ∈ Led c', p.1 ≠ I) (hk : ∀ p ∈ ps c', m' p.1 = some p.2) (hp : P c') :
    FEnd h₀ L s I oI Led ps P { s with heap := h', toks := tk } := ⟨c', h', tk, m', news', rfl, F, N, hn, hi, ho, hk, hp⟩

theorem fo_core {σ : Type} {x : Str} {body : List Stmt} {I l : Addr} {ol : Obj} {n : Nat} {Pv : Nat → Value → Prop} {St : Nat → Heap → Prop} {m₀ : Str → Option Value} {s₂ : Shared} (W : Walks prog w A I [I, l] [I] n Pv St)
    (Led : σ → List (Addr × Obj)) (ps : σ → List (Str × Value)) (P : Nat → σ → Prop) (c₀ : σ)
    (hl : ∀ c : σ, (l, ol) ∈ Led c) (hI : h₀.get? I = none) (hIL : env.locals ≠ I) (st : St 0 s₂.heap) (F : Fr h₀ env.locals s₂.heap m₀) (N : News h₀ env.locals s₂.heap (Led c₀)) (hN : ∀ p ∈ Led c₀, p.1 ≠ I)
    (hk : ∀ p ∈ ps c₀, m₀ p.1 = some p.2) (hp : P 0 c₀) (hIs : ∃ o, s₂.heap.get? I = some o)
    (turn : ∀ i v (c : σ) (u : Str → Option Value) h tk oI, i < n → Pv i v → P i c → (∀ p ∈ Led c, p.1 ≠ I) →
      Fr h₀ env.locals h (fun y => if y = x then some v else kstB u (ps c) y) → News h₀ env.locals h ((I, oI) :: Led c) →
      wpAny (model prog w) A (execs body env) (FPost h₀ env.locals { s₂ with heap := h, toks := tk } I oI Led ps (P (i + 1)) Q) E { s₂ with heap := h, toks := tk })
    (done : ∀ (c : σ) (u : Str → Option Value) h tk, P n c → Fr h₀ env.locals h (kstB u (ps c)) → News h₀ env.locals h (Led c) → Q .next { s₂ with heap := h, toks := tk })
    (oIs : ∀ i h, St i h → ∃ o, h.get? I = some o) :
    LoopAtV prog w A h₀ env x body Q E (.ref I) s₂ := by
  refine ⟨I, [I, l], [I], n, Pv, St, m₀, Led c₀, fun i m nx => ∃ c : σ, nx = Led c ∧ (∀ p ∈ ps c, m p.1 = some p.2) ∧ P i c, rfl, W, ?_, ?_, ?_, st, F, N, ⟨c₀, rfl, hk, hp⟩, ?_, ?_⟩
  · intro hm
    rcases List.mem_cons.mp hm with e | hm
    · exact hIL e
    · exact (N _ (hl c₀)).2.1 ((List.mem_singleton.mp hm).symm)
  · intro b hb
    rw [List.mem_singleton.mp hb]; exact hI
  · intro p hp hm
    exact hN p hp (List.mem_singleton.mp hm)
  · rintro i v m₁ news₁ s₁ own ⟨h, tk, rfl⟩ hin hP ⟨c, rfl, hk₁, hp₁⟩ hoff hown hget hfp hst F₁ N₁
    obtain ⟨oI, hoI⟩ := oIs _ _ hst
    have hoff' : ∀ p ∈ Led c, p.1 ≠ I := fun p hp e => hoff p hp (e ▸ List.mem_singleton.mpr rfl)
    have memI : (I, oI) ∈ own := hfp I (List.mem_cons_self ..) hI oI hoI
    have N₂ : News h₀ env.locals h ((I, oI) :: Led c) := fun p hp => by
      rcases List.mem_cons.mp hp with q | q
      · rw [q]; exact N₁ _ (List.mem_append.mpr (.inl memI))
      · exact N₁ p (List.mem_append.mpr (.inr q))
    have F₂ : Fr h₀ env.locals h (fun y => if y = x then some v else kstB m₁ (ps c) y) := by
      have e : kstB m₁ (ps c) = m₁ := funext fun y => kstB_eq hk₁ fun _ => rfl
      rw [e]; exact F₁
    refine wpAny_mono (turn i v c m₁ h tk oI hin hP hp₁ hoff' F₂ N₂) (fun f s₃ q => ?_) fun _ _ e => e
    have fin : FEnd h₀ env.locals { s₂ with heap := h, toks := tk } I oI Led ps (P (i + 1)) s₃ →
        LoopStepU h₀ env.locals [I] own (fun m nx => ∃ c : σ, nx = Led c ∧ (∀ p ∈ ps c, m p.1 = some p.2) ∧ P (i + 1) c) { s₂ with heap := h, toks := tk } .next s₃ := by
      rintro ⟨c', h', tk', m', news', e, F', N', hn, hi, ho, hk9, hp9⟩
      refine ⟨rfl, h', tk', m', Led c', e, F', fun p hp => ?_, fun p hp hm => ho p hp (List.mem_singleton.mp hm), c', rfl, hk9, hp9⟩
      rcases List.mem_append.mp hp with q | q
      · rcases List.mem_cons.mp (hown p q) with h1 | h1
        · have h2 := hget p q
          rw [h1] at h2
          have : p = (I, oI) := by
            obtain ⟨a, b⟩ := p
            dsimp only at h1 h2
            subst h1
            rw [Prod.mk.injEq]
            exact ⟨rfl, Option.some.inj (h2.symm.trans hoI)⟩
          rw [this]; exact N' _ hi
        · have h1 := List.mem_singleton.mp h1
          have h2 := hget p q
          have h3 := (N₁ _ (List.mem_append.mpr (.inr (hl c)))).1
          have : p = (l, ol) := by
            obtain ⟨a, b⟩ := p
            dsimp only at h1 h2
            subst h1
            rw [Prod.mk.injEq]
            exact ⟨rfl, Option.some.inj (h2.symm.trans h3)⟩
          rw [this]; exact N' _ (hn _ (hl c'))
      · exact N' p (hn p q)
    cases f with
    | ret v => exact .ret q
    | brk => exact .brk q
    | next => exact .next (fin q)
    | cont => exact .cont (fin q)
  · rintro h' tk m' news' F' N' _ ⟨c, rfl, hk9, hp9⟩
    exact done c m' h' tk hp9 (frTell F' _ hk9) N'

theorem fo_list {σ : Type} {x : Str} {body : List Stmt} {l : Addr} {vs : List Value} {nn : Nat} {m₀ : Str → Option Value}
    (Led : σ → List (Addr × Obj)) (ps : σ → List (Str × Value)) (P : Nat → σ → Prop) (c₀ : σ)
    (hh : A.handled = none) (hl : ∀ c : σ, (l, listOf vs.toArray nn) ∈ Led c) (F : Fr h₀ env.locals s.heap m₀) (N : News h₀ env.locals s.heap (Led c₀))
    (hk : ∀ p ∈ ps c₀, m₀ p.1 = some p.2) (hp : P 0 c₀)
    (turn : ∀ i v (c : σ) (u : Str → Option Value) h tk I oI, vs[i]? = some v → P i c → (∀ p ∈ Led c, p.1 ≠ I) →
      Fr h₀ env.locals h (fun y => if y = x then some v else kstB u (ps c) y) → News h₀ env.locals h ((I, oI) :: Led c) →
      wpAny (model prog w) A (execs body env) (FPost h₀ env.locals { s with heap := h, toks := tk } I oI Led ps (P (i + 1)) Q) E { s with heap := h, toks := tk })
    (done : ∀ (c : σ) (u : Str → Option Value) h tk, P vs.length c → Fr h₀ env.locals h (kstB u (ps c)) → News h₀ env.locals h (Led c) → Q .next { s with heap := h, toks := tk }) :
    wpAny (model prog w) A (pyIter (.ref l)) (fun it s₂ => LoopAtV prog w A h₀ env x body Q E it s₂) E s := by
  have hol : s.heap.get? l = some (listOf vs.toArray nn) := (N _ (hl c₀)).1
  have hls : s.heap.IsList l vs.toArray := ⟨_, hol, rfl, nn, rfl⟩
  have hne : l ≠ s.heap.objs.size := Nat.ne_of_lt (Heap.lt_size hol)
  refine wpAny_pyIter_list hls ?_
  have W := Walks.list (prog := prog) (w := w) hh s.heap.objs.size l hne vs.toArray
  refine fo_core W Led ps P c₀ hl (next_is_new F) (Nat.ne_of_lt F.ns.lt) ⟨⟨_, Heap.get?_push_size _ rfl, rfl, rfl⟩, hls.at fun o e => Heap.get?_push_of_some _ e⟩ (F.push _) (fun p hp => ⟨Heap.get?_push_of_some _ (N p hp).1, (N p hp).2⟩)
    (fun p hp e => absurd (Heap.lt_size (N p hp).1) (e ▸ Nat.lt_irrefl _)) hk hp ⟨_, Heap.get?_push_size _ rfl⟩ ?_ ?_ ?_
  · intro i v c u h tk oI hi hv hP hoff F₁ N₁
    exact turn i v c u h tk _ oI (by simpa using hv) hP hoff F₁ N₁
  · intro c u h tk hP F₁ N₁
    exact done c u h tk (by simpa using hP) F₁ N₁
  · rintro i h ⟨⟨o, e, _⟩, _⟩
    exact ⟨o, e⟩

theorem fo_listL {σ : Type} {x : Str} {body : List Stmt} {l : Addr} {vs : List Value} {nn : Nat} {m₀ : Str → Option Value}
    (Led : σ → List (Addr × Obj)) (ps : σ → List (Str × Value)) (P : Nat → σ → Prop) (c₀ : σ) (hL : env.locals = L)
    (hh : A.handled = none) (hl : ∀ c : σ, (l, listOf vs.toArray nn) ∈ Led c) (F : Fr h₀ L s.heap m₀) (N : News h₀ L s.heap (Led c₀))
    (hk : ∀ p ∈ ps c₀, m₀ p.1 = some p.2) (hp : P 0 c₀)
    (turn : ∀ i v (c : σ) (u : Str → Option Value) h tk I oI, vs[i]? = some v → P i c → (∀ p ∈ Led c, p.1 ≠ I) →
      Fr h₀ L h (fun y => if y = x then some v else kstB u (ps c) y) → News h₀ L h ((I, oI) :: Led c) →
      wpAny (model prog w) A (execs body env) (FPost h₀ L { s with heap := h, toks := tk } I oI Led ps (P (i + 1)) Q) E { s with heap := h, toks := tk })
    (done : ∀ (c : σ) (u : Str → Option Value) h tk, P vs.length c → Fr h₀ L h (kstB u (ps c)) → News h₀ L h (Led c) → Q .next { s with heap := h, toks := tk }) :
    wpAny (model prog w) A (pyIter (.ref l)) (fun it s₂ => LoopAtV prog w A h₀ env x body Q E it s₂) E s := by
  subst hL
  exact fo_list Led ps P c₀ hh hl F N hk hp turn done

theorem fo_tupL {σ : Type} {x : Str} {body : List Stmt} {l : Addr} {vs : List Value} {m₀ : Str → Option Value}
    (Led : σ → List (Addr × Obj)) (ps : σ → List (Str × Value)) (P : Nat → σ → Prop) (c₀ : σ) (hL : env.locals = L)
    (hh : A.handled = none) (hl : ∀ c : σ, (l, tupOf vs) ∈ Led c) (F : Fr h₀ L s.heap m₀) (N : News h₀ L s.heap (Led c₀))
    (hk : ∀ p ∈ ps c₀, m₀ p.1 = some p.2) (hp : P 0 c₀)
    (turn : ∀ i v (c : σ) (u : Str → Option Value) h tk I oI, vs[i]? = some v → P i c → (∀ p ∈ Led c, p.1 ≠ I) →
      Fr h₀ L h (fun y => if y = x then some v else kstB u (ps c) y) → News h₀ L h ((I, oI) :: Led c) →
      wpAny (model prog w) A (execs body env) (FPost h₀ L { s with heap := h, toks := tk } I oI Led ps (P (i + 1)) Q) E { s with heap := h, toks := tk })
    (done : ∀ (c : σ) (u : Str → Option Value) h tk, P vs.length c → Fr h₀ L h (kstB u (ps c)) → News h₀ L h (Led c) → Q .next { s with heap := h, toks := tk }) :
    wpAny (model prog w) A (pyIter (.ref l)) (fun it s₂ => LoopAtV prog w A h₀ env x body Q E it s₂) E s := by
  subst hL
  have hol : s.heap.get? l = some (tupOf vs) := (N _ (hl c₀)).1
  have hls : s.heap.IsTuple l vs.toArray := ⟨_, hol, rfl, 0, rfl⟩
  have hne : l ≠ s.heap.objs.size := Nat.ne_of_lt (Heap.lt_size hol)
  refine wpAny_pyIter_tuple hls ?_
  have W := Walks.tuple (prog := prog) (w := w) hh s.heap.objs.size l hne vs.toArray
  refine fo_core W Led ps P c₀ hl (next_is_new F) (Nat.ne_of_lt F.ns.lt) ⟨⟨_, Heap.get?_push_size _ rfl, rfl, rfl⟩, hls.at fun o e => Heap.get?_push_of_some _ e⟩ (F.push _) (fun p hp => ⟨Heap.get?_push_of_some _ (N p hp).1, (N p hp).2⟩)
    (fun p hp e => absurd (Heap.lt_size (N p hp).1) (e ▸ Nat.lt_irrefl _)) hk hp ⟨_, Heap.get?_push_size _ rfl⟩ ?_ ?_ ?_
  · intro i v c u h tk oI hi hv hP hoff F₁ N₁
    exact turn i v c u h tk _ oI (by simpa using hv) hP hoff F₁ N₁
  · intro c u h tk hP F₁ N₁
    exact done c u h tk (by simpa using hP) F₁ N₁
  · rintro i h ⟨⟨o, e, _⟩, _⟩
    exact ⟨o, e⟩

theorem forF {x : Str} {px pos : Pos} {iter : PySem.Expr} {body : List Stmt} {m₀ : Str → Option Value} (_F : Fr h₀ L s.heap m₀) (hx : env.kindOf x = some .local)
    (hp : (env.scope.kind == .class || (env.scope.kind == .module && env.locals != env.globals)) = false)
    (h : wpAny (model prog w) A (eval iter env) (fun xv s₁ => wpAny (model prog w) A (pyIter xv) (fun it s₂ => LoopAtV prog w A h₀ env x body Q E it s₂) E s₁) E s)
    (hs : ∀ x, foldedSetIterable iter env x = pure x := by intro _; rfl)
    (hE : PassesOwn (model prog w) A env E := by passes_own) :
    wpAny (model prog w) A (exec (.For (.Name x px) iter body [] pos) env) Q E s := For_invV h₀ hx hp h hs hE

theorem item_tupN {value slice : PySem.Expr} {a : Addr} {news : List (Addr × Obj)} {l : List Value} {k : Int} {u : Tok} {j : Nat} {v : Value} {Q : Value → Shared → Prop} (N : News h₀ L s.heap news) (hm : (a, tupOf l) ∈ news)
    (hlo : -(2 ^ 63) ≤ k) (hhi : k < 2 ^ 63) (hj : seqIndex? k l.length = some j) (hx : l[j]? = some v) (h : Q v s)
    (hs : subscripted slice false (.ref a) (.int k u) = operate [.ref a, .int k u] (getItem (.ref a) (.int k u)) := by with_unfolding_all rfl) :
    wpAny (model prog w) A (subscriptTail value slice (.ref a) (.int k u)) Q E s := item_tupleT ⟨_, (N _ hm).1, rfl, 0, rfl⟩ hlo hhi hj hx h hs

theorem compInv {m : Str → Option Value} {elt : PySem.Expr} {x : Str} {scope : Scope} {cl : List (Str × Addr)} {S : List (Addr × Obj) → Prop} {P : Nat → Value → Prop} {Fin : List Value → List (Addr × Obj) → Prop} {news : List (Addr × Obj)} {n : Nat}
    (J : Nat → List Value → List (Addr × Obj) → Prop) (h0 : J 0 [] news)
    (turn : ∀ i v ys nw I oI C oC D m₂ h tk (E' : Value → Shared → Prop), J i ys nw → i < n → P i v → LCg.NsObj oC m₂ → m₂ x = some v → Fr h₀ L h m → News h₀ L h ((I, oI) :: (C, oC) :: (D, LCg.lst ys) :: nw) → LCg.Off3 I C D nw → ((@Ne Nat I C) ∧ (@Ne Nat I D) ∧ (@Ne Nat C D)) →
      wpAny (model prog w) A (eval elt (compEnvC scope cl C env)) (LCg.CompEnd h₀ L m { s with heap := h, toks := tk } I oI C oC D (LCg.lst ys) S (fun y nw' => J (i + 1) (ys ++ [y]) nw')) E' { s with heap := h, toks := tk })
    (fin : ∀ ys nw, J n ys nw → Fin ys nw) : LCg.CompRest prog w A h₀ L m env elt x scope cl s S P Fin n 0 [] news := by
  have key : ∀ (j i : Nat) (ys : List Value) (nw : List (Addr × Obj)), i + j = n → J i ys nw → LCg.CompRest prog w A h₀ L m env elt x scope cl s S P Fin j i ys nw := by
    intro j
    induction j with
    | zero =>
      intro i ys nw hi hy
      have e : i = n := by lia
      subst e
      exact LCg.CompRest.zero (fin ys nw hy)
    | succ j ih =>
      intro i ys nw hi hy
      refine LCg.CompRest.succ ?_
      intro v I oI C oC D m₂ h tk E' hv hC hx F N off ne
      refine wpAny_mono (turn i v ys nw I oI C oC D m₂ h tk E' hy (by lia) hv hC hx F N off ne) (fun y s₂ hq => ?_) fun _ _ e => e
      obtain ⟨h', tk', nw', e, F', N', off', hS, hn⟩ := hq
      exact ⟨h', tk', nw', e, F', N', off', hS, ih (i + 1) _ _ (by lia) hn⟩
  exact key n 0 [] news (by lia) h0

section
variable {a : Addr} {news : List (Addr × Obj)} {its : Array Value} {n : Nat} {value slice : PySem.Expr} {k : Int} {t u : Tok} {v : Value} {x : Str} {c : Nat}
theorem truthN {Q : Bool → Shared → Prop} (N : News h₀ L s.heap news) (hm : (a, listOf its n) ∈ news) (hfit : its.size ≤ 16777216) (h : Q (!its.isEmpty) { s with toks := s.toks + 1 + 1 }) : wpAny (model prog w) A (truthy (.ref a)) Q E s :=
  wpAny_truthy_list ⟨_, (N _ hm).1, rfl, n, rfl⟩ (by lia) h
theorem item_listN {Q : Value → Shared → Prop} (N : News h₀ L s.heap news) (hm : (a, listOf its n) ∈ news) (h0 : 0 ≤ k) (hhi : k < 2 ^ 63) (hx : its[k.toNat]? = some v) (h : Q v s)
    (hs : subscripted slice false (.ref a) (.int k u) = operate [.ref a, .int k u] (getItem (.ref a) (.int k u)) := by with_unfolding_all rfl) :
    wpAny (model prog w) A (subscriptTail value slice (.ref a) (.int k u)) Q E s :=
  have hl : s.heap.IsList a its := ⟨_, (N _ hm).1, rfl, n, rfl⟩
  tail_any hl.typeIs slot_list_getitem.lookup (wpAny_getItem_list hl h0 hhi hx h) hs
theorem item_listNneg {Q : Value → Shared → Prop} (N : News h₀ L s.heap news) (hm : (a, listOf its n) ∈ news) (h0 : k < 0) (h1 : -(its.size : Int) ≤ k) (hfit : -(2 ^ 63) ≤ k) (hx : its[(k + its.size).toNat]? = some v) (h : Q v s)
    (hs : subscripted slice false (.ref a) (.int k u) = operate [.ref a, .int k u] (getItem (.ref a) (.int k u)) := by with_unfolding_all rfl) :
    wpAny (model prog w) A (subscriptTail value slice (.ref a) (.int k u)) Q E s :=
  have hl : s.heap.IsList a its := ⟨_, (N _ hm).1, rfl, n, rfl⟩
  tail_any hl.typeIs slot_list_getitem.lookup (wpAny_getItem_list_neg hl h0 h1 hfit hx h) hs
theorem item_str0 {Q : Value → Shared → Prop} (hc : x.cps[0]? = some c) (h : Q (.str ⟨#[c]⟩ s.toks) { s with toks := s.toks + 1 })
    (hs : subscripted slice false (.str x t) (.int 0 u) = operate [.str x t, .int 0 u] (getItem (.str x t) (.int 0 u)) := by with_unfolding_all rfl) :
    wpAny (model prog w) A (subscriptTail value slice (.str x t) (.int 0 u)) Q E s :=
  tail_any (typeIs_str s x t) slot_str_getitem.lookup (P.getItem_str (by decide) (by
    have h1 : 0 < x.length := by
      show 0 < x.cps.size
      rcases Nat.eq_zero_or_pos x.cps.size with e | e
      · rw [Array.getElem?_eq_none (by lia)] at hc; cases hc
      · exact e
    have : seqIndex? 0 x.length = some 0 := by
      unfold seqIndex?; simp; lia
    rw [this]; exact hc) h) hs
theorem in_one {Q : Value → Shared → Prop} (h : Q (.bool (decide (c ∈ x.cps.toList))) s) : wpAny (model prog w) A (compareOp .In (.str ⟨#[c]⟩ u) (.str x t)) Q E s := by
  refine P.in_str ?_
  rw [StrLaws.found_one]; exact h
theorem notin_one {Q : Value → Shared → Prop} (h : Q (.bool (!decide (c ∈ x.cps.toList))) s) : wpAny (model prog w) A (compareOp .NotIn (.str ⟨#[c]⟩ u) (.str x t)) Q E s := by
  refine P.notIn_str ?_
  rw [StrLaws.found_one]; exact h
end
end
section
variable {w : World} {f : Addr} {D U : Nat} {news : List (Addr × Obj)} {vs : List Value}
variable {mean : ExcName → Option Value} {mg mb : Str → Option Value} {dp un : Nat} {gd : Option (List Code)} {cn : Str} {cs : Scope} {a : Addr} {ccd : Value} {cl : List (Str × Addr)} {outer : List Env} {A₀ : Around} {base h₀ : Heap} {L : Addr} {m : Str → Option Value} {s : Shared} {Q E : Value → Shared → Prop}
theorem Claim.use {P : Post} (C : Claim w f D U news vs (P))
    (Bl : Below A₀ base outer h₀) (F : Fr h₀ L s.heap m) (X : (hd.heap_39 w.params).In h₀) (N : News h₀ L s.heap news) (T : Top hd.view_39 loose0 mean mg mb h₀) (hk : cs.kind = .function) (hdp : dp + D < recursionLimit) (hun : un + U < cLine)
    (ret : ∀ v h' tk' news', P v news' → Fr h₀ L h' m → News h₀ L h' news' → Q v { s with heap := h', toks := tk' }) :
    wpAny (model PySem.Challenge.rw_ik0085_01.row.prog w) (ktrTop dp un gd cn cs L a ccd cl outer) (call (.ref f) vs) Q E s :=
  C mean mg mb dp un gd cn cs a ccd cl outer A₀ base h₀ L m s Q E Bl F X N T hk hdp hun ret
theorem Claim.u0 {V : Value} {nw : List (Addr × Obj)} (C : Claim w f D U news vs (fun v news' => v = V ∧ news' = nw))
    (Bl : Below A₀ base outer h₀) (F : Fr h₀ L s.heap m) (X : (hd.heap_39 w.params).In h₀) (N : News h₀ L s.heap news) (T : Top hd.view_39 loose0 mean mg mb h₀) (hk : cs.kind = .function) (hdp : dp + D < recursionLimit) (hun : un + U < cLine)
    (ret : ∀ h' tk', Fr h₀ L h' m → News h₀ L h' nw → Q V { s with heap := h', toks := tk' }) :
    wpAny (model PySem.Challenge.rw_ik0085_01.row.prog w) (ktrTop dp un gd cn cs L a ccd cl outer) (call (.ref f) vs) Q E s :=
  C mean mg mb dp un gd cn cs a ccd cl outer A₀ base h₀ L m s Q E Bl F X N T hk hdp hun fun _ h' tk' _ e F' N' => e.1 ▸ ret h' tk' F' (e.2 ▸ N')
theorem Claim.u0t {V : Tok → Value} {nw : List (Addr × Obj)} (C : Claim w f D U news vs (fun v news' => (∃ t, v = V t) ∧ news' = nw))
    (Bl : Below A₀ base outer h₀) (F : Fr h₀ L s.heap m) (X : (hd.heap_39 w.params).In h₀) (N : News h₀ L s.heap news) (T : Top hd.view_39 loose0 mean mg mb h₀) (hk : cs.kind = .function) (hdp : dp + D < recursionLimit) (hun : un + U < cLine)
    (ret : ∀ t h' tk', Fr h₀ L h' m → News h₀ L h' nw → Q (V t) { s with heap := h', toks := tk' }) :
    wpAny (model PySem.Challenge.rw_ik0085_01.row.prog w) (ktrTop dp un gd cn cs L a ccd cl outer) (call (.ref f) vs) Q E s :=
  C mean mg mb dp un gd cn cs a ccd cl outer A₀ base h₀ L m s Q E Bl F X N T hk hdp hun fun _ h' tk' _ e F' N' => e.1.elim fun t q => q ▸ ret t h' tk' F' (e.2 ▸ N')
theorem Claim.u3 {α1 α2 α3 : Type} {fv : α1 → α2 → α3 → Value} {fn : α1 → α2 → α3 → List (Addr × Obj)} {R : α1 → α2 → α3 → Prop} (C : Claim w f D U news vs (fun v news' => ∃ x1 x2 x3, v = fv x1 x2 x3 ∧ news' = fn x1 x2 x3 ∧ R x1 x2 x3))
    (Bl : Below A₀ base outer h₀) (F : Fr h₀ L s.heap m) (X : (hd.heap_39 w.params).In h₀) (N : News h₀ L s.heap news) (T : Top hd.view_39 loose0 mean mg mb h₀) (hk : cs.kind = .function) (hdp : dp + D < recursionLimit) (hun : un + U < cLine)
    (ret : ∀ x1 x2 x3 h' tk', R x1 x2 x3 → Fr h₀ L h' m → News h₀ L h' (fn x1 x2 x3) → Q (fv x1 x2 x3) { s with heap := h', toks := tk' }) :
    wpAny (model PySem.Challenge.rw_ik0085_01.row.prog w) (ktrTop dp un gd cn cs L a ccd cl outer) (call (.ref f) vs) Q E s :=
  C mean mg mb dp un gd cn cs a ccd cl outer A₀ base h₀ L m s Q E Bl F X N T hk hdp hun fun v h' tk' nw q F' N' => q.elim fun x1 q => q.elim fun x2 q => q.elim fun x3 q => q.1 ▸ ret x1 x2 x3 h' tk' q.2.2 F' (q.2.1 ▸ N')
theorem Claim.u6 {α1 α2 α3 α4 α5 α6 : Type} {fv : α1 → α2 → α3 → α4 → α5 → α6 → Value} {fn : α1 → α2 → α3 → α4 → α5 → α6 → List (Addr × Obj)} {R : α1 → α2 → α3 → α4 → α5 → α6 → Prop} (C : Claim w f D U news vs (fun v news' => ∃ x1 x2 x3 x4 x5 x6, v = fv x1 x2 x3 x4 x5 x6 ∧ news' = fn x1 x2 x3 x4 x5 x6 ∧ R x1 x2 x3 x4 x5 x6))
    (Bl : Below A₀ base outer h₀) (F : Fr h₀ L s.heap m) (X : (hd.heap_39 w.params).In h₀) (N : News h₀ L s.heap news) (T : Top hd.view_39 loose0 mean mg mb h₀) (hk : cs.kind = .function) (hdp : dp + D < recursionLimit) (hun : un + U < cLine)
    (ret : ∀ x1 x2 x3 x4 x5 x6 h' tk', R x1 x2 x3 x4 x5 x6 → Fr h₀ L h' m → News h₀ L h' (fn x1 x2 x3 x4 x5 x6) → Q (fv x1 x2 x3 x4 x5 x6) { s with heap := h', toks := tk' }) :
    wpAny (model PySem.Challenge.rw_ik0085_01.row.prog w) (ktrTop dp un gd cn cs L a ccd cl outer) (call (.ref f) vs) Q E s :=
  C mean mg mb dp un gd cn cs a ccd cl outer A₀ base h₀ L m s Q E Bl F X N T hk hdp hun fun v h' tk' nw q F' N' => q.elim fun x1 q => q.elim fun x2 q => q.elim fun x3 q => q.elim fun x4 q => q.elim fun x5 q => q.elim fun x6 q => q.1 ▸ ret x1 x2 x3 x4 x5 x6 h' tk' q.2.2 F' (q.2.1 ▸ N')
theorem Claim.u7 {α1 α2 α3 α4 α5 α6 α7 : Type} {fv : α1 → α2 → α3 → α4 → α5 → α6 → α7 → Value} {fn : α1 → α2 → α3 → α4 → α5 → α6 → α7 → List (Addr × Obj)} {R : α1 → α2 → α3 → α4 → α5 → α6 → α7 → Prop} (C : Claim w f D U news vs (fun v news' => ∃ x1 x2 x3 x4 x5 x6 x7, v = fv x1 x2 x3 x4 x5 x6 x7 ∧ news' = fn x1 x2 x3 x4 x5 x6 x7 ∧ R x1 x2 x3 x4 x5 x6 x7))
    (Bl : Below A₀ base outer h₀) (F : Fr h₀ L s.heap m) (X : (hd.heap_39 w.params).In h₀) (N : News h₀ L s.heap news) (T : Top hd.view_39 loose0 mean mg mb h₀) (hk : cs.kind = .function) (hdp : dp + D < recursionLimit) (hun : un + U < cLine)
    (ret : ∀ x1 x2 x3 x4 x5 x6 x7 h' tk', R x1 x2 x3 x4 x5 x6 x7 → Fr h₀ L h' m → News h₀ L h' (fn x1 x2 x3 x4 x5 x6 x7) → Q (fv x1 x2 x3 x4 x5 x6 x7) { s with heap := h', toks := tk' }) :
    wpAny (model PySem.Challenge.rw_ik0085_01.row.prog w) (ktrTop dp un gd cn cs L a ccd cl outer) (call (.ref f) vs) Q E s :=
  C mean mg mb dp un gd cn cs a ccd cl outer A₀ base h₀ L m s Q E Bl F X N T hk hdp hun fun v h' tk' nw q F' N' => q.elim fun x1 q => q.elim fun x2 q => q.elim fun x3 q => q.elim fun x4 q => q.elim fun x5 q => q.elim fun x6 q => q.elim fun x7 q => q.1 ▸ ret x1 x2 x3 x4 x5 x6 x7 h' tk' q.2.2 F' (q.2.1 ▸ N')
end
noncomputable abbrev Nev : Value → Shared → Prop := fun _ _ => False
noncomputable def Stm (k : Flow → Shared → Prop) : Flow → Shared → Prop := k
section
variable {M : Model} {A : Around} {E : Value → Shared → Prop} {s : Shared} {env : Env} {k Q : Flow → Shared → Prop}
theorem Stm.out {f : Flow} (h : k f s) : Stm k f s := h
theorem execs_one {st : Stmt} (h : wpAny M A (exec st env) (Stm k) E s) : wpAny M A (execs [st] env) (Stm k) E s :=
  wpAny_execs_cons (wpAny_mono h (fun f _ q => by cases f <;> first | exact wpAny_execs_nil q | exact q) fun _ _ e => e)
theorem execs_gen {st t : Stmt} {r : List Stmt} (h : ∀ j : Flow → Shared → Prop, (∀ s, wpAny M A (execs (t :: r) env) (Stm k) E s → j .next s) → (∀ v s, Stm k (.ret v) s → j (.ret v) s) → (∀ s, Stm k .brk s → j .brk s) → (∀ s, Stm k .cont s → j .cont s) →
    wpAny M A (exec st env) (Stm j) E s) : wpAny M A (execs (st :: t :: r) env) (Stm k) E s :=
  wpAny_execs_cons (h _ (fun _ q => q) (fun _ _ q => q) (fun _ q => q) fun _ q => q)
theorem post_gen {b : List Stmt} (h : ∀ j : Flow → Shared → Prop, (∀ f s, Q f s → j f s) → wpAny M A (execs b env) (Stm j) Nev s) : wpAny M A (execs b env) Q E s :=
  wpAny_mono (h Q fun _ _ q => q) (fun _ _ q => q) fun _ _ e => e.elim
theorem let_state {α : Type} {t : Sem α} {Q : α → Shared → Prop} (h : let S := s; wpAny M A t Q E S) : wpAny M A t Q E s := h
end
theorem lt_room {n D lim k : Nat} (h : n + D < lim) (hk : Nat.ble k D = true) : n + k < lim := Nat.lt_of_le_of_lt (Nat.add_le_add_left (Nat.le_of_ble_eq_true hk) n) h
theorem lt_room0 {n D lim : Nat} (h : n + D < lim) : n < lim := Nat.lt_of_le_of_lt (Nat.le_add_right n D) h
theorem post_genA {M : Model} {A : Around} {E : Value → Shared → Prop} {s : Shared} {env : Env} {Q : Flow → Shared → Prop} {b : List Stmt}
    (h : let B := A; ∀ j : Flow → Shared → Prop, (∀ f s, Q f s → j f s) → wpAny M B (execs b env) (Stm j) Nev s) : wpAny M A (execs b env) Q E s := post_gen h
theorem whK {prog : Program} {w : World} {A : Around} {E : Value → Shared → Prop} {Q : Flow → Shared → Prop} {s : Shared} {env : Env} {h₀ : Heap} {L : Addr} {σ : Type} {test : PySem.Expr} {body : List Stmt} {pos : Pos} {m₀ : Str → Option Value} (Led : σ → List (Addr × Obj)) (ps : σ → List (Str × Value)) (P : σ → Prop) (μ : σ → Nat) (c₀ : σ)
    (F : Fr h₀ L s.heap m₀) (N : News h₀ L s.heap (Led c₀)) (hk : ∀ p ∈ ps c₀, m₀ p.1 = some p.2) (hp : P c₀)
    (turn : ∀ (c : σ) (K : Flow → Shared → Prop) (u : Str → Option Value) h tk, (∀ f s₂, WPost h₀ L s Led ps P μ Q c f s₂ → K f s₂) → P c → Fr h₀ L h (kstB u (ps c)) → News h₀ L h (Led c) →
      wpAny (model prog w) A (isTrue test env (eval test env)) (fun b s₂ =>
        if b = true then wpAny (model prog w) A (execs body env) (Stm K) E s₂ else Q .next s₂) E { s with heap := h, toks := tk })
    (hE : PassesOwn (model prog w) A env E := by passes_own) :
    wpAny (model prog w) A (exec (.While test body [] pos) env) Q E s :=
  wh Led ps P μ c₀ F N hk hp (fun c u h tk p f n => turn c _ u h tk (fun _ _ q => q) p f n) hE
theorem head_name {h₀ h : Heap} {L : Addr} {a : Addr} {o : Obj} {X : List (Addr × Obj)} (_N : News h₀ L h ((a, o) :: X)) : ∃ r : Nat, r = a := ⟨a, rfl⟩
noncomputable def Bst (k : Bool → Shared → Prop) : Bool → Shared → Prop := k
theorem Bst.out {k : Bool → Shared → Prop} {b : Bool} {s : Shared} (h : k b s) : Bst k b s := h
theorem Bst.split {k : Bool → Shared → Prop} {b : Bool} {s : Shared} (h1 : b = true → k true s) (h2 : b = false → k false s) : Bst k b s := by
  cases b
  · exact h2 rfl
  · exact h1 rfl
theorem if_gen {M : Model} {A : Around} {E : Value → Shared → Prop} {s : Shared} {env : Env} {Q : Flow → Shared → Prop} {test : PySem.Expr} {body orelse : List Stmt} {pos : Pos}
    (h : ∀ j : Bool → Shared → Prop, (∀ s, wpAny M A (execs body env) Q E s → j true s) → (∀ s, wpAny M A (execs orelse env) Q E s → j false s) → wpAny M A (isTrue test env (eval test env)) (Bst j) E s) :
    wpAny M A (exec (.If test body orelse pos) env) Q E s :=
  wpAny_If (h (fun b s₂ => if b = true then wpAny M A (execs body env) Q E s₂ else wpAny M A (execs orelse env) Q E s₂) (fun s q => by simpa using q) (fun s q => by simpa using q))
end
section
section
variable {prog : Program} {w : World} {A : Around} {E : Value → Shared → Prop} {s : Shared}
theorem args_issub_nested (a b c : Value) : argsOk "issubclass.nested" ⟨[a, b, c], []⟩ := by unfold argsOk; kernel_rfl
theorem kind_issub_nested : builtinKind "issubclass.nested" = none := by decide +kernel
theorem plain_issub_nested : plainId "issubclass.nested" = true := by decide +kernel
theorem sub_str_str : isSubtype (.type "str") (.type "str") = pure true := by rw [isSubtype_type]; kernel_rfl
theorem issub_one (dep : Int) (tk : Tok) : Meets (Builtin.«issubclass.nested» ⟨[.type "str", .type "str", .int dep tk], []⟩) (fun _ R s => R (.ok (.ret (.bool true))) s) := by
  intro prog w A R s hq
  have hm := kitMeta_of (T := "str") (by decide +kernel)
  have hself := sub_str_str
  repeat (any_goals (first | assumption | (rw [if_pos hm]) | (rw [hself]) | wp_step))
theorem code_meets {id : String} {B : Builtin} {args : List Value} {S : PySem.Spec} {R : Result → Shared → Prop} (kind : builtinKind id = none) (plain : plainId id = true)
    (entry : entryFor table id = some B) (ok : argsOk id ⟨args, []⟩) (g : Meets (B ⟨args, []⟩) S) (h : S A R s) : codeAny (model prog w) A (.call (.builtin id) ⟨args, []⟩) R s := by
  refine codeAny_call_builtin plain entry ?_
  have hfin := g prog w A R s h
  simp only [checkBuiltinCall, kind]
  cases hsig : Manifest.signature? id with
  | none => exact wpAny_pure hfin
  | some sig =>
    simp only [argsOk, hsig] at ok
    have h2 : Bind.checkArgs id sig ⟨args, []⟩ = pure () := ok
    show wpAny _ _ (Bind.checkArgs id sig ⟨args, []⟩) _ _ s
    rw [h2]
    exact wpAny_pure hfin
theorem issub_tuple {tp : Addr} {n : Nat} {tk : Tok} : Meets (Builtin.«issubclass.nested» ⟨[.type "str", .ref tp, .int 0 tk], []⟩)
    (fun _ R s => s.heap.get? tp = some ⟨.type "tuple", none, .seq #[.type "str", .type "bytes"] n, #[]⟩ ∧ R (.ok (.ret (.bool true))) s) := by
  intro prog w A R s hs
  obtain ⟨h, g, d, tt, os⟩ := s
  obtain ⟨htp, hq⟩ := hs
  have hT2 : (⟨h, g, d, tt, os⟩ : Shared).TypeIs (.ref tp) "tuple" := ⟨_, htp, rfl⟩
  have f1 := F.isi_sub_tuple
  repeat (any_goals (first | assumption | wp_step))
  refine code_meets kind_issub_nested plain_issub_nested F.entry_issubclass_nested (args_issub_nested _ _ _) (issub_one 1 0) ?_
  dsimp only
  repeat (any_goals (first | assumption | wp_step))
theorem issub_call {tp : Addr} {n : Nat} {Q : Value → Shared → Prop} (htp : s.heap.get? tp = some ⟨.type "tuple", none, .seq #[.type "str", .type "bytes"] n, #[]⟩) (h : Q (.bool true) s) :
    wpAny (model prog w) A (call (.builtin "issubclass") [.type "str", .ref tp]) Q E s :=
  call_issubclass (S := fun _ R s => s.heap.get? tp = some ⟨.type "tuple", none, .seq #[.type "str", .type "bytes"] n, #[]⟩ ∧ R (.ok (.ret (.bool true))) s) (fun prog w A R s hs => issubclass_outer (issub_tuple prog w A R s hs)) ⟨htp, h⟩
end
section
variable {prog : Program} {w : World} {A : Around} {E : Value → Shared → Prop} {s : Shared} {h₀ : Heap} {L : Addr} {m : Str → Option Value} {news news' : List (Addr × Obj)}
theorem seq_list_iadd : seqSlot? (.type "list") (dunderI "add") = pure (some (.builtin "list.__iadd__")) := PySem.seqSlot_of PySem.F.slot_list_iadd.lookup (by decide +kernel)
theorem seqslot_iadd : isSeqSlot (some (.builtin "list.__iadd__")) = true := by decide +kernel
theorem iadd_listN {a b : Addr} {its its2 : Array Value} {n n2 : Nat} {news' : Nat → List (Addr × Obj)} {Q : Value → Shared → Prop} (Fm : Fr h₀ L s.heap m) (N : News h₀ L s.heap news) (hb : s.heap.get? b = some (listOf its2 n2))
    (U : ∀ n', Upd a (listOf its n) (listOf (its ++ its2) n') news (news' n')) (hz : its.size + its2.size ≤ 1000000)
    (h : ∀ h' n', Fr h₀ L h' m → News h₀ L h' (news' n') → Q (.ref a) { s with heap := h' }) : wpAny (model prog w) A (inplaceOp .Add (.ref a) (.ref b)) Q E s := by
  have z0 : (a, listOf its n) ∈ news := by
    obtain ⟨pre, post, rfl, _⟩ := (U 0).split
    exact List.mem_append.mpr (.inr (.head _))
  have z := N _ z0
  have hTa : s.TypeIs (.ref a) "list" := ⟨_, z.1, rfl⟩
  have hTb : s.TypeIs (.ref b) "list" := ⟨_, hb, rfl⟩
  unfold inplaceOp
  refine wpAny_holding ?_
  have hfi : fillsInplaceSlot (.type "list") "add" (Operator.Add == .Add) = pure false := by
    unfold fillsInplaceSlot
    show (typeLookup (.type "list") (dunderI "add") >>= fun fi => pure (fi.isSome && !isSeqSlot fi)) = pure false
    rw [PySem.F.slot_list_iadd.lookup]
    show (pure ((some (Value.builtin "list.__iadd__")).isSome && !isSeqSlot (some (.builtin "list.__iadd__"))) : Sem Bool) = pure false
    rw [seqslot_iadd]; rfl
  refine wpAny_bind (wpAny_typeOf hTa (wpAny_bind (wpAny_of_eq hfi ?_)))
  show wpAny _ A (if false = true then _ else _) Q E s
  rw [if_neg Bool.false_ne_true]
  refine wpAny_bind (wpAny_binaryOp1_none (nm := "add") hTa hTb noFill_list_add ?_)
  refine wpAny_bind (wpAny_of_eq seq_list_iadd ?_)
  refine wpAny_bind (wpAny_rule ?_)
  refine call_meets PySem.F.slot_list_iadd hTa PySem.F.entry_list_iadd (PySem.F.args_list_iadd_2 _ _) (PySem.AutoSeq1.list___iadd___list_list_0 a its n b its2 n2 ?_ (by rw [PySem.sizeLine_eq]; lia) (by rw [PySem.sizeLine_eq]; lia)) ⟨z.1, hb, ?_⟩
  · have : Builtin.List.listTooLong (its.size + its2.size) = false := by
      unfold Builtin.List.listTooLong
      exact decide_eq_false (by rw [PySem.sizeLine_eq]; lia)
    rw [this]; simp
  · obtain ⟨n', e⟩ : ∃ n', (Obj.mapSeq fun x => x ++ its2) (listOf its n) = listOf (its ++ its2) n' := ⟨_, rfl⟩
    obtain ⟨pre, post, rfl, e2, ha1, ha2⟩ := (U n').split
    have hs : Heap.SameBut a s.heap (s.heap.update a (Obj.mapSeq fun x => x ++ its2)) := Heap.SameBut.update ..
    have ho : (s.heap.update a (Obj.mapSeq fun x => x ++ its2)).get? a = some (listOf (its ++ its2) n') := by
      rw [← e]
      exact Heap.get?_update_self _ z.1 (by rw [e]; rfl)
    exact h _ n' (Fm.change hs z.2.1 z.2.2) (e2 ▸ news_set N ha1 ha2 hs ho)
theorem ne_of_all {l : List (Addr × Obj)} {d : Addr} (h : ∀ p ∈ l, p.1 < d) : ∀ p ∈ l, p.1 ≠ d := fun p hp => Nat.ne_of_lt (h p hp)
theorem ne_of_app {l l' : List (Addr × Obj)} {d : Addr} (h : ∀ p ∈ l, p.1 ≠ d) (h' : ∀ p ∈ l', p.1 ≠ d) : ∀ p ∈ l ++ l', p.1 ≠ d := fun p hp => (List.mem_append.mp hp).elim (h p) (h' p)
theorem mul_listN {l : Addr} {items : Array Value} {k : Nat} {x : Int} {u : Tok} {Q : Value → Shared → Prop} (Fm : Fr h₀ L s.heap m) (N : News h₀ L s.heap news) (hl : (l, listOf items k) ∈ news)
    (hne : items.isEmpty = false) (h0 : 0 ≤ x) (hhi : x < 1000) (hz : items.size ≤ 1000)
    (h : ∀ h', Fr h₀ L h' m → News h₀ L h' ((s.heap.objs.size, listOf (List.replicate x.toNat items.toList).flatten.toArray 0) :: news) → (∀ p ∈ news, p.1 < s.heap.objs.size) → Q (.ref s.heap.objs.size) { s with heap := h' }) :
    wpAny (model prog w) A (binaryOp .Mult (.ref l) (.int x u)) Q E s :=
  mul_list Fm N (N _ hl).1 (by lia) (by lia) (Nat.le_trans (Nat.mul_le_mul hz (show x.toNat ≤ 1000 by lia)) (by decide)) fun h' F' N' => by
    rw [hne] at N'
    simp only [Bool.false_eq_true, if_false, listMul_foldl] at N'
    exact h h' F' (by simpa using N') fun p hp => Heap.lt_size (N p hp).1
end
end
section
namespace Dec
open PySem.Builtin PySem.Builtin._codecs
theorem forList {β : Type} (F : Nat → β → Sem (ForInStep β)) (g : Nat → β) (n : Nat) (h : ∀ x p, p < n → F x (g p) = pure (.yield (g (p + 1)))) :
    ∀ (l : List Nat) (p : Nat), p + l.length = n → forIn l (g p) F = pure (g n)
  | [], p, e => by
    have : p = n := by simpa using e
    subst this
    rw [List.forIn_nil]
  | x :: r, p, e => by
    rw [List.forIn_cons, h x p (by simp at e; lia)]
    show forIn r (g (p + 1)) F = _
    exact forList F g n h r (p + 1) (by simp at e ⊢; lia)
theorem forRange {β : Type} (F : Nat → β → Sem (ForInStep β)) (g : Nat → β) (n : Nat) (h : ∀ x p, p < n → F x (g p) = pure (.yield (g (p + 1)))) :
    forIn [0 : n] (g 0) F = pure (g n) := by
  rw [Std.Legacy.Range.forIn_eq_forIn_range']
  exact forList F g n h _ 0 (by simp [Std.Legacy.Range.size])
noncomputable def codes (bs : List UInt8) : List Nat := bs.map (·.toNat)
theorem ascii_run (id : String) (bs : List UInt8) (h : ∀ b ∈ bs, b.toNat < 128) (hl : bs.length ≤ 1000) : runDecoder id asciiDecoder none true bs.toArray 0 [] = pure ((codes bs).toArray, bs.length) := by
  unfold runDecoder
  have key := forRange (β := Nat × Array Nat × Faults) (fun x s => if s.2.1.size > sizeLine then do
              unsupported "str:memory"
              if s.1 ≥ bs.toArray.size then pure (ForInStep.done (s.1, s.2.1, s.2.2))
                else
                  match asciiDecoder.find true bs.toArray s.1 with
                  | Found.text cs nx => pure (ForInStep.yield (nx, s.2.1 ++ cs.toArray, s.2.2))
                  | Found.refuse tag => do
                    unsupported (toString id ++ toString ":" ++ toString tag)
                    pure (ForInStep.yield (s.1, s.2.1, s.2.2))
                  | Found.bad stop reason mayGrow =>
                    if (mayGrow && !true) = true then do
                      rule (toString id ++ toString ".held-back")
                      pure (ForInStep.done (s.1, s.2.1, s.2.2))
                    else do
                      rule (toString id ++ toString ".fault")
                      let y ← decodeFault id s.2.2 none asciiDecoder.own asciiDecoder.name bs.toArray s.1 stop reason
                      pure (ForInStep.yield (y.2.2, s.2.1 ++ y.2.1, y.1))
            else
              if s.1 ≥ bs.toArray.size then pure (ForInStep.done (s.1, s.2.1, s.2.2))
              else
                match asciiDecoder.find true bs.toArray s.1 with
                | Found.text cs nx => pure (ForInStep.yield (nx, s.2.1 ++ cs.toArray, s.2.2))
                | Found.refuse tag => do
                  unsupported (toString id ++ toString ":" ++ toString tag)
                  pure (ForInStep.yield (s.1, s.2.1, s.2.2))
                | Found.bad stop reason mayGrow =>
                  if (mayGrow && !true) = true then do
                    rule (toString id ++ toString ".held-back")
                    pure (ForInStep.done (s.1, s.2.1, s.2.2))
                  else do
                    rule (toString id ++ toString ".fault")
                    let y ← decodeFault id s.2.2 none asciiDecoder.own asciiDecoder.name bs.toArray s.1 stop reason
                    pure (ForInStep.yield (y.2.2, s.2.1 ++ y.2.1, y.1)))
    (fun p => (p, (codes (bs.take p)).toArray, { held := [] })) bs.toArray.size (by
      intro x p hp
      rw [List.size_toArray] at hp
      have h1 : ¬ (codes (bs.take p)).toArray.size > sizeLine := by
        rw [PySem.sizeLine_eq, List.size_toArray, codes, List.length_map, List.length_take]; lia
      have h2 : ¬ p ≥ bs.toArray.size := by rw [List.size_toArray]; lia
      dsimp only
      rw [if_neg h1, if_neg h2]
      have h3 : bs.toArray.getD p 0 = bs[p] := by simp [hp]
      have h4 : asciiDecoder.find true bs.toArray p = Found.char (bs[p]).toNat (p + 1) := by
        show (if (bs.toArray.getD p 0).toNat < 128 then Found.char (bs.toArray.getD p 0).toNat (p + 1) else Found.bad (p + 1) "ordinal not in range(128)" false) = _
        rw [h3, if_pos (h _ (List.getElem_mem hp))]
      rw [h4]
      have h5 : codes (bs.take (p + 1)) = codes (bs.take p) ++ [(bs[p]).toNat] := by
        rw [List.take_add_one, List.getElem?_eq_getElem hp]; unfold codes; rw [List.map_append]; rfl
      rw [h5]
      show pure (ForInStep.yield (p + 1, (codes (bs.take p)).toArray ++ [(bs[p]).toNat].toArray, _)) = _
      simp)
  refine (congrArg (fun z => Sem.bind z fun s : Nat × Array Nat × Faults => pure (s.2.1, s.1)) key).trans ?_
  show pure ((codes (bs.take bs.toArray.size)).toArray, bs.toArray.size) = _
  rw [List.size_toArray, List.take_length]
end Dec
namespace Dec
open PySem.Builtin PySem.Builtin._codecs
section
variable {prog : Program} {w : World} {A : Around} {E : Value → Shared → Prop} {s : Shared} {bs : List UInt8} {t t2 : Tok}
theorem road_eq {id : String} {b : Array UInt8} : decodeRoad id b (PySem.Str.ofString "ascii") none [] = (runDecoder id asciiDecoder none true b 0 [] >>= fun r => mkStr ⟨r.1⟩) := by kernel_rfl
theorem meets_text {t1 t2 : Tok} {d : PySem.Str} (h : ∀ b ∈ bs, b.toNat < 128) (hl : bs.length ≤ 1000) :
    Meets («_codecs.decode.text» ⟨[.bytes bs.toArray t, .str (PySem.Str.ofString "ascii") t1, .none, .str d t2], []⟩) (fun _ R s => R (.ok (.ret (.str ⟨(codes bs).toArray⟩ s.toks))) { s with toks := s.toks + 1 }) := by
  refine .of_wp fun prog w A R s hS => ?_
  show wpAny _ _ (Bytes.bytesLike _ (.bytes bs.toArray t) >>= fun r => _) _ _ s
  refine wpAny_bind (wpAny_of_eq KBd.like_eq ?_)
  refine wpAny_bind (wpAny_of_eq KBd.held_eq ?_)
  show wpAny _ _ (decodeRoad _ bs.toArray (PySem.Str.ofString "ascii") none [] >>= fun v => _) _ _ s
  rw [road_eq, ascii_run _ _ h hl]
  refine wpAny_bind (wpAny_bind (wpAny_pure ?_))
  exact wpAny_mkStr (wpAny_pure ⟨_, rfl, hS⟩) (by rw [PySem.sizeLine_eq]; show (codes bs).toArray.size ≤ _; rw [List.size_toArray, codes, List.length_map]; lia)
theorem entry_cons {c : UInt8} {cs : List UInt8} : «bytes.decode» ⟨[.bytes (c :: cs).toArray t, .str (PySem.Str.ofString "ascii") t2], []⟩ = (mkStr (PySem.Str.ofString "utf-8") >>= fun _ => mkStr (PySem.Str.ofString "ascii") >>= fun e => mkStr (PySem.Str.ofString "bytes.decode") >>= fun d =>
    call (.builtin "_codecs.decode.text") [.bytes (c :: cs).toArray t, e, .none, d] >>= fun v => ret v) := by kernel_rfl
theorem meets_cons {c : UInt8} {cs : List UInt8} (h : ∀ b ∈ c :: cs, b.toNat < 128) (hl : (c :: cs).length ≤ 1000) :
    Meets («bytes.decode» ⟨[.bytes (c :: cs).toArray t, .str (PySem.Str.ofString "ascii") t2], []⟩) (fun _ R s => ∀ t' k, R (.ok (.ret (.str ⟨(codes (c :: cs)).toArray⟩ t'))) { s with toks := k }) := by
  refine .of_wp fun prog w A R s hS => ?_
  rw [entry_cons]
  refine wpAny_bind (wpAny_mkStr ?_ (by decide))
  refine wpAny_bind (wpAny_mkStr ?_ (by decide))
  refine wpAny_bind (wpAny_mkStr ?_ (by decide))
  exact wpAny_bind (call_function_meets KBd.kind_text KBd.plain_text KBd.entry_text (KBd.args_text _ _ _ _) (meets_text h hl) (wpAny_pure ⟨_, rfl, hS _ _⟩))
theorem entry_nil : «bytes.decode» ⟨[.bytes ([] : List UInt8).toArray t, .str (PySem.Str.ofString "ascii") t2], []⟩ = (rule "bytes.decode.empty" >>= fun _ => mkStr Str.empty >>= fun v => ret v) := by kernel_rfl
theorem meets_nil : Meets («bytes.decode» ⟨[.bytes ([] : List UInt8).toArray t, .str (PySem.Str.ofString "ascii") t2], []⟩) (fun _ R s => ∀ t' k, R (.ok (.ret (.str ⟨(codes []).toArray⟩ t'))) { s with toks := k }) := by
  refine .of_wp fun prog w A R s hS => ?_
  rw [entry_nil]
  exact wpAny_bind (wpAny_rule (wpAny_bind (wpAny_mkStr (wpAny_pure ⟨_, rfl, hS _ _⟩) (by decide))))
theorem args2 (a b : Value) : argsOk "bytes.decode" ⟨[a, b], []⟩ := by unfold argsOk; kernel_rfl
theorem decode {Q : Value → Shared → Prop} (h : ∀ b ∈ bs, b.toNat < 128) (hl : bs.length ≤ 1000) (hQ : ∀ t' k, Q (.str ⟨(codes bs).toArray⟩ t') { s with toks := k }) :
    wpAny (model prog w) A (call (.builtin "bytes.decode") [.bytes bs.toArray t, .str (PySem.Str.ofString "ascii") t2]) Q E s := by
  cases bs with
  | nil => exact call_meets FB.slot_bytes_decode (typeIs_bytes _ _ _) FB.entry_bytes_decode (args2 _ _) meets_nil hQ
  | cons c cs => exact call_meets FB.slot_bytes_decode (typeIs_bytes _ _ _) FB.entry_bytes_decode (args2 _ _) (meets_cons h hl) hQ
end
end Dec
end
section
/-! the order of lists and tuples: what «<» and «>» tell -/
section
open PySem.SeqAt PySem.MeetsSeq PySem.MeetsSeq2 PySem.MeetsSeq3 PySem.SeqRoads2
open PySem.AutoSeq1 (wpAny_loadPart')
noncomputable def OpAt (op : CmpOp) (A : Around) (s : Shared) (y x : Value) (b : Bool) : Prop :=
  ∀ (prog : Program) (w : World) (E : Value → Shared → Prop) (Q : Value → Shared → Prop), Q (.bool b) s → wpAny (model prog w) A (richCompare op y x) Q E s
noncomputable def firstCmp (e c : Nat → Bool) (z : Bool) : Nat → Nat → Bool
  | 0, _ => z
  | k + 1, i => if e i = true then firstCmp e c z k (i + 1) else c i
noncomputable abbrev lobj (dd : Option Addr) (items : Array Value) (n : Nat) (sl : Array (Option Value)) : Obj := { cls := .type "list", dict := dd, data := .seq items n, slots := sl }
theorem lt_loopAt (l b : Addr) (items items2 : Array Value) (n n2 : Nat) (dd dd2 : Option Addr) (sl sl2 : Array (Option Value)) (e c : Nat → Bool) (k : Nat) :
    ∀ i : Nat, min items.size items2.size - i = k → Meets (Builtin.«list.__eq__.loop» ⟨[.ref l, .ref b, rawInt i, rawInt 0], []⟩)
      (fun A R s => s.heap.get? l = some (lobj dd items n sl) ∧ s.heap.get? b = some (lobj dd2 items2 n2 sl2) ∧
        (∀ j (h1 : j < items.size) (h2 : j < items2.size), EqAt A.in1 s items[j] items2[j] (e j)) ∧ (∀ j (h1 : j < items.size) (h2 : j < items2.size), e j = false → OpAt .Lt A.in1 s items[j] items2[j] (c j)) ∧
        R (.ok (.ret (.bool (firstCmp e c (decide (items.size < items2.size)) k i)))) s) := by
  induction k with
  | zero =>
    intro i hk prog w A R s h
    obtain ⟨hp, g, d, tk, os⟩ := s; obtain ⟨hl, hb, he, hc, h⟩ := h
    wp_walk using wpAny_loadPart' hl, wpAny_loadPart' hb
    rcases Nat.lt_or_ge i items.size with h1 | h1
    · have hi1 : items[((i : Nat) : Int).toNat]? = some items[i] := by simp [h1]
      have hi2 : items2[((i : Nat) : Int).toNat]? = none := by simp; omega
      rw [hi1, hi2]
      wp_walk using wpAny_loadPart' hl, wpAny_loadPart' hb
      exact h
    · have hi1 : items[((i : Nat) : Int).toNat]? = none := by simp; omega
      rw [hi1]
      wp_walk using wpAny_loadPart' hl, wpAny_loadPart' hb
      exact h
  | succ k ih =>
    intro i hk prog w A R s h
    obtain ⟨hp, g, d, tk, os⟩ := s; obtain ⟨hl, hb, he, hc, h⟩ := h
    wp_walk using wpAny_loadPart' hl, wpAny_loadPart' hb
    have hlt : i < items.size := by omega
    have hlt2 : i < items2.size := by omega
    have hi1 : items[((i : Nat) : Int).toNat]? = some items[i] := by simp [hlt]
    have hi2 : items2[((i : Nat) : Int).toNat]? = some items2[i] := by simp [hlt2]
    have hcc : ((i : Int) + 1) = ((i + 1 : Nat) : Int) := by push_cast; rfl
    rw [hi1, hi2]
    refine wpAny_bind (he i hlt hlt2 prog w _ _ ?_)
    cases hb' : e i with
    | true =>
      rw [firstCmp, if_pos hb'] at h
      wp_walk
      rw [hcc]
      exact ⟨plainId_quiet plain_eq_loop _, codeAny_builtin entry_eq_loop (by
        rw [Around.under_plainId plain_eq_loop _]
        exact ih (i + 1) (by omega) prog w A R _ ⟨hl, hb, he, hc, h⟩)⟩
    | false =>
      rw [firstCmp, if_neg (by rw [hb']; decide)] at h
      wp_walk using wpAny_loadPart' hl, wpAny_loadPart' hb
      rw [hi1, hi2]
      refine wpAny_bind (hc i hlt hlt2 hb' prog w _ _ ?_)
      wp_walk
      exact h
theorem list_ltAt (l b : Addr) (items items2 : Array Value) (n n2 : Nat) (dd dd2 : Option Addr) (sl sl2 : Array (Option Value)) (e c : Nat → Bool) :
    Meets (Builtin.«list.__lt__» ⟨[.ref l, .ref b], []⟩)
      (fun A R s => s.heap.get? l = some (lobj dd items n sl) ∧ s.heap.get? b = some (lobj dd2 items2 n2 sl2) ∧
        (∀ j (h1 : j < items.size) (h2 : j < items2.size), EqAt A.in1 s items[j] items2[j] (e j)) ∧ (∀ j (h1 : j < items.size) (h2 : j < items2.size), e j = false → OpAt .Lt A.in1 s items[j] items2[j] (c j)) ∧
        R (.ok (.ret (.bool (firstCmp e c (decide (items.size < items2.size)) (min items.size items2.size) 0)))) s) := by
  intro prog w A R s h
  obtain ⟨hp, g, d, tk, os⟩ := s; obtain ⟨hl, hb, he, hc, h⟩ := h
  have f3 := AutoSeq1.sub_list_list
  wp_walk using wpAny_loadPart' hl, wpAny_loadPart' hb
  exact ⟨plainId_quiet plain_eq_loop _, codeAny_builtin entry_eq_loop (by
    rw [Around.under_plainId plain_eq_loop _]
    exact lt_loopAt l b items items2 n n2 dd dd2 sl sl2 e c _ 0 rfl prog w A R _ ⟨hl, hb, he, hc, h⟩)⟩
theorem gt_loopAt (l b : Addr) (items items2 : Array Value) (n n2 : Nat) (dd dd2 : Option Addr) (sl sl2 : Array (Option Value)) (e c : Nat → Bool) (k : Nat) :
    ∀ i : Nat, min items.size items2.size - i = k → Meets (Builtin.«list.__eq__.loop» ⟨[.ref l, .ref b, rawInt i, rawInt 4], []⟩)
      (fun A R s => s.heap.get? l = some (lobj dd items n sl) ∧ s.heap.get? b = some (lobj dd2 items2 n2 sl2) ∧
        (∀ j (h1 : j < items.size) (h2 : j < items2.size), EqAt A.in1 s items[j] items2[j] (e j)) ∧ (∀ j (h1 : j < items.size) (h2 : j < items2.size), e j = false → OpAt .Gt A.in1 s items[j] items2[j] (c j)) ∧
        R (.ok (.ret (.bool (firstCmp e c (decide (items.size > items2.size)) k i)))) s) := by
  induction k with
  | zero =>
    intro i hk prog w A R s h
    obtain ⟨hp, g, d, tk, os⟩ := s; obtain ⟨hl, hb, he, hc, h⟩ := h
    wp_walk using wpAny_loadPart' hl, wpAny_loadPart' hb
    rcases Nat.lt_or_ge i items.size with h1 | h1
    · have hi1 : items[((i : Nat) : Int).toNat]? = some items[i] := by simp [h1]
      have hi2 : items2[((i : Nat) : Int).toNat]? = none := by simp; omega
      rw [hi1, hi2]
      wp_walk using wpAny_loadPart' hl, wpAny_loadPart' hb
      exact h
    · have hi1 : items[((i : Nat) : Int).toNat]? = none := by simp; omega
      rw [hi1]
      wp_walk using wpAny_loadPart' hl, wpAny_loadPart' hb
      exact h
  | succ k ih =>
    intro i hk prog w A R s h
    obtain ⟨hp, g, d, tk, os⟩ := s; obtain ⟨hl, hb, he, hc, h⟩ := h
    wp_walk using wpAny_loadPart' hl, wpAny_loadPart' hb
    have hlt : i < items.size := by omega
    have hlt2 : i < items2.size := by omega
    have hi1 : items[((i : Nat) : Int).toNat]? = some items[i] := by simp [hlt]
    have hi2 : items2[((i : Nat) : Int).toNat]? = some items2[i] := by simp [hlt2]
    have hcc : ((i : Int) + 1) = ((i + 1 : Nat) : Int) := by push_cast; rfl
    rw [hi1, hi2]
    refine wpAny_bind (he i hlt hlt2 prog w _ _ ?_)
    cases hb' : e i with
    | true =>
      rw [firstCmp, if_pos hb'] at h
      wp_walk
      rw [hcc]
      exact ⟨plainId_quiet plain_eq_loop _, codeAny_builtin entry_eq_loop (by
        rw [Around.under_plainId plain_eq_loop _]
        exact ih (i + 1) (by omega) prog w A R _ ⟨hl, hb, he, hc, h⟩)⟩
    | false =>
      rw [firstCmp, if_neg (by rw [hb']; decide)] at h
      wp_walk using wpAny_loadPart' hl, wpAny_loadPart' hb
      rw [hi1, hi2]
      refine wpAny_bind (hc i hlt hlt2 hb' prog w _ _ ?_)
      wp_walk
      exact h
theorem list_gtAt (l b : Addr) (items items2 : Array Value) (n n2 : Nat) (dd dd2 : Option Addr) (sl sl2 : Array (Option Value)) (e c : Nat → Bool) :
    Meets (Builtin.«list.__gt__» ⟨[.ref l, .ref b], []⟩)
      (fun A R s => s.heap.get? l = some (lobj dd items n sl) ∧ s.heap.get? b = some (lobj dd2 items2 n2 sl2) ∧
        (∀ j (h1 : j < items.size) (h2 : j < items2.size), EqAt A.in1 s items[j] items2[j] (e j)) ∧ (∀ j (h1 : j < items.size) (h2 : j < items2.size), e j = false → OpAt .Gt A.in1 s items[j] items2[j] (c j)) ∧
        R (.ok (.ret (.bool (firstCmp e c (decide (items.size > items2.size)) (min items.size items2.size) 0)))) s) := by
  intro prog w A R s h
  obtain ⟨hp, g, d, tk, os⟩ := s; obtain ⟨hl, hb, he, hc, h⟩ := h
  have f3 := AutoSeq1.sub_list_list
  wp_walk using wpAny_loadPart' hl, wpAny_loadPart' hb
  exact ⟨plainId_quiet plain_eq_loop _, codeAny_builtin entry_eq_loop (by
    rw [Around.under_plainId plain_eq_loop _]
    exact gt_loopAt l b items items2 n n2 dd dd2 sl sl2 e c _ 0 rfl prog w A R _ ⟨hl, hb, he, hc, h⟩)⟩
end
end
section
section
open PySem.SeqAt PySem.MeetsSeq PySem.MeetsSeq2 PySem.MeetsSeq3 PySem.SeqRoads2
open PySem.AutoSeq1 (wpAny_loadPart')
noncomputable abbrev tobj (dd : Option Addr) (items : Array Value) (n : Nat) (sl : Array (Option Value)) : Obj := { cls := .type "tuple", dict := dd, data := .seq items n, slots := sl }
theorem tuple_ltAt (l b : Addr) (items items2 : Array Value) (n n2 : Nat) (dd dd2 : Option Addr) (sl sl2 : Array (Option Value)) (e c : Nat → Bool) :
    Meets (Builtin.«tuple.__lt__» ⟨[.ref l, .ref b], []⟩)
      (fun A R s => s.heap.get? l = some (tobj dd items n sl) ∧ s.heap.get? b = some (tobj dd2 items2 n2 sl2) ∧
        (∀ j (h1 : j < items.size) (h2 : j < items2.size), EqAt A.in1 s items[j] items2[j] (e j)) ∧ (∀ j (h1 : j < items.size) (h2 : j < items2.size), e j = false → OpAt .Lt A.in1 s items[j] items2[j] (c j)) ∧
        R (.ok (.ret (.bool (firstCmp e c (decide (items.size < items2.size)) (min items.size items2.size) 0)))) s) :=
  .of_wp fun prog w A R s h => by
    obtain ⟨hp, g, d, tk, os⟩ := s; obtain ⟨hl, hb, he, hc, h⟩ := h
    have f2 := AutoSeq1.sub_tuple_tuple
    have hZ : (items.toList.zip items2.toList).length = min items.size items2.size := by simp
    wp_walk using wpAny_loadPart' hl, wpAny_loadPart' hb, wpAny_forIn_list _ (fun rest b s' => b.1 = none ∧ s' = ⟨hp, g, d, tk, os⟩ ∧ ∃ i, rest = (items.toList.zip items2.toList).drop i ∧ i ≤ min items.size items2.size ∧
      R (.ok (.ret (.bool (firstCmp e c (decide (items.size < items2.size)) (min items.size items2.size - i) i)))) ⟨hp, g, d, tk, os⟩) _
    case turn =>
      rintro ⟨y, x⟩ rest b s' ⟨hb', rfl, i, hz, -, hR⟩
      have hlt : i < (items.toList.zip items2.toList).length := by
        rcases Nat.lt_or_ge i (items.toList.zip items2.toList).length with h' | h'
        · exact h'
        · rw [List.drop_of_length_le h'] at hz; cases hz
      have hm : i < min items.size items2.size := hZ ▸ hlt
      have h1 : i < items.size := Nat.lt_of_lt_of_le hm (Nat.min_le_left _ _)
      have h2 : i < items2.size := Nat.lt_of_lt_of_le hm (Nat.min_le_right _ _)
      rw [List.drop_eq_getElem_cons hlt] at hz
      injection hz with hyx hrest
      have hy : y = items[i] := by have := congrArg Prod.fst hyx; simpa using this
      have hx : x = items2[i] := by have := congrArg Prod.snd hyx; simpa using this
      subst hy hx
      obtain ⟨k, hk⟩ : ∃ k, min items.size items2.size - i = k + 1 := ⟨_, (Nat.succ_pred_eq_of_pos (by omega)).symm⟩
      rw [hk, firstCmp] at hR
      refine wpAny_bind (he i h1 h2 prog w _ _ ?_)
      cases hy : e i with
      | true =>
        rw [if_pos hy] at hR
        wp_walk
        exact ⟨rfl, rfl, i + 1, hrest, hm, by rw [show min items.size items2.size - (i + 1) = k by omega]; exact hR⟩
      | false =>
        rw [if_neg (by rw [hy]; decide)] at hR
        simp only [Bool.not_false, if_true]
        refine wpAny_bind (wpAny_rule ?_)
        refine wpAny_bind (hc i h1 h2 hy prog w _ _ ?_)
        wp_walk
        exact ⟨_, rfl, hR⟩
    case fin =>
      rintro ⟨b1, b2⟩ s' ⟨hb', rfl, i, hz, hi, hR⟩
      simp only at hb'
      subst hb'
      have hge : min items.size items2.size ≤ i := by
        rcases Nat.lt_or_ge i (items.toList.zip items2.toList).length with h' | h'
        · rw [List.drop_eq_getElem_cons h'] at hz; cases hz
        · exact hZ ▸ h'
      rw [show min items.size items2.size - i = 0 by omega, firstCmp] at hR
      wp_walk
      exact ⟨_, rfl, hR⟩
    case h =>
      exact ⟨rfl, rfl, 0, rfl, Nat.zero_le _, h⟩
section
variable {A : Around} {s : Shared}
theorem OpAt.int_lt (a b : Int) (t u : Tok) : OpAt .Lt A s (.int a t) (.int b u) (decide (a < b)) := fun _ _ _ _ h => PyProof.Rows.lt_int h
theorem OpAt.str_lt (x y : Str) (t u : Tok) : OpAt .Lt A s (.str x t) (.str y u) (decide (x.cps.toList < y.cps.toList)) := fun _ _ _ _ h => PyProof.Rows.lt_str h
theorem OpAt.str_gt (x y : Str) (t u : Tok) : OpAt .Gt A s (.str x t) (.str y u) (decide (y.cps.toList < x.cps.toList)) := fun _ _ _ _ h => PySem.P.gt_str h
theorem OpAt.tuples {l b : Addr} {items items2 : Array Value} {e c : Nat → Bool} (hl : s.heap.IsTuple l items) (hb : s.heap.IsTuple b items2) (hu : A.units < cLine)
    (he : ∀ j (h1 : j < items.size) (h2 : j < items2.size), EqAt A.in1 s items[j] items2[j] (e j)) (hc : ∀ j (h1 : j < items.size) (h2 : j < items2.size), e j = false → OpAt .Lt A.in1 s items[j] items2[j] (c j)) :
    OpAt .Lt A s (.ref l) (.ref b) (firstCmp e c (decide (items.size < items2.size)) (min items.size items2.size) 0) := fun prog w E Q h => by
  obtain ⟨⟨cls, dd, data, sl⟩, ho, hc1, n, hd⟩ := id hl
  obtain ⟨⟨cls2, dd2, data2, sl2⟩, ho2, hc2, n2, hd2⟩ := id hb
  simp only at hc1 hd hc2 hd2
  subst hc1 hd hc2 hd2
  exact richCompare_meets_room (op := .Lt) ⟨_, ho, rfl⟩ ⟨_, ho2, rfl⟩ F.slot_tuple_lt F.entry_tuple_lt (F.args_tuple_lt_2 _ _) (tuple_ltAt l b items items2 n n2 dd dd2 sl sl2 e c)
    ⟨ho, ho2, he, hc, show Value.bool _ ≠ Value.notImplemented ∧ Q (.bool _) s from ⟨(fun x => nomatch x), h⟩⟩ hu
theorem OpAt.lists_lt {l b : Addr} {items items2 : Array Value} {e c : Nat → Bool} (hl : s.heap.IsList l items) (hb : s.heap.IsList b items2) (hu : A.units < cLine)
    (he : ∀ j (h1 : j < items.size) (h2 : j < items2.size), EqAt A.in1 s items[j] items2[j] (e j)) (hc : ∀ j (h1 : j < items.size) (h2 : j < items2.size), e j = false → OpAt .Lt A.in1 s items[j] items2[j] (c j)) :
    OpAt .Lt A s (.ref l) (.ref b) (firstCmp e c (decide (items.size < items2.size)) (min items.size items2.size) 0) := fun prog w E Q h => by
  obtain ⟨⟨cls, dd, data, sl⟩, ho, hc1, n, hd⟩ := id hl
  obtain ⟨⟨cls2, dd2, data2, sl2⟩, ho2, hc2, n2, hd2⟩ := id hb
  simp only at hc1 hd hc2 hd2
  subst hc1 hd hc2 hd2
  exact richCompare_meets_room (op := .Lt) ⟨_, ho, rfl⟩ ⟨_, ho2, rfl⟩ F.slot_list_lt F.entry_list_lt (F.args_list_lt_2 _ _) (list_ltAt l b items items2 n n2 dd dd2 sl sl2 e c)
    ⟨ho, ho2, he, hc, show Value.bool _ ≠ Value.notImplemented ∧ Q (.bool _) s from ⟨(fun x => nomatch x), h⟩⟩ hu
theorem OpAt.lists_gt {l b : Addr} {items items2 : Array Value} {e c : Nat → Bool} (hl : s.heap.IsList l items) (hb : s.heap.IsList b items2) (hu : A.units < cLine)
    (he : ∀ j (h1 : j < items.size) (h2 : j < items2.size), EqAt A.in1 s items[j] items2[j] (e j)) (hc : ∀ j (h1 : j < items.size) (h2 : j < items2.size), e j = false → OpAt .Gt A.in1 s items[j] items2[j] (c j)) :
    OpAt .Gt A s (.ref l) (.ref b) (firstCmp e c (decide (items.size > items2.size)) (min items.size items2.size) 0) := fun prog w E Q h => by
  obtain ⟨⟨cls, dd, data, sl⟩, ho, hc1, n, hd⟩ := id hl
  obtain ⟨⟨cls2, dd2, data2, sl2⟩, ho2, hc2, n2, hd2⟩ := id hb
  simp only at hc1 hd hc2 hd2
  subst hc1 hd hc2 hd2
  exact richCompare_meets_room (op := .Gt) ⟨_, ho, rfl⟩ ⟨_, ho2, rfl⟩ F.slot_list_gt F.entry_list_gt (F.args_list_gt_2 _ _) (list_gtAt l b items items2 n n2 dd dd2 sl sl2 e c)
    ⟨ho, ho2, he, hc, show Value.bool _ ≠ Value.notImplemented ∧ Q (.bool _) s from ⟨(fun x => nomatch x), h⟩⟩ hu
end
end
end
section
/-! min and max of a list whose items are compared by what the heap holds -/
section
open PyProof.Rows
variable {prog : Program} {w : World} {A : Around} {E : Value → Shared → Prop} {R : Result → Shared → Prop} {I l S : Addr} {vs : List Value}
noncomputable def CmpAt (prog : Program) (w : World) (A : Around) (op : CmpOp) (h : Heap) (vs : List Value) (bt : Nat → Nat → Bool) : Prop :=
  ∀ (i j : Nat) (vi vj : Value) (s : Shared) (Q : Value → Shared → Prop) (E : Value → Shared → Prop), vs[i]? = some vi → vs[j]? = some vj → (∀ b o, h.get? b = some o → s.heap.get? b = some o) → Q (.bool (bt i j)) s → wpAny (model prog w) A (richCompare op vi vj) Q E s
theorem bestOf_lt (bt : Nat → Nat → Bool) : ∀ k, argBest bt k ≤ k
  | 0 => Nat.le_refl 0
  | k + 1 => by
    rw [argBest]
    split
    · exact Nat.le_refl _
    · exact Nat.le_succ_of_le (bestOf_lt bt k)
theorem min_go (hh : A.handled = none) (bt : Nat → Nat → Bool) (h : Heap) (hcmp : CmpAt prog w A.in1 .Lt h vs bt) (hlI : l ≠ I) (hSI : S ≠ I) (hlS : l ≠ S) (hI : h.get? I = none) (hS0 : h.get? S = none) :
    ∀ (k j : Nat) (s : Shared) (vb : Value) (c : Nat), vs.length - (j + 1) = k → j + 1 ≤ vs.length → s.heap.IsListIter I l (j + 1) → s.heap.IsList l vs.toArray → (∀ b o, h.get? b = some o → s.heap.get? b = some o) → vs[argBest bt j]? = some vb →
    s.heap.get? S = some { cls := .type "list", dict := none, data := .seq #[vb, vb] c, slots := #[] } →
    (∀ v h' tk, vs[argBest bt (vs.length - 1)]? = some v → (∀ b o, h.get? b = some o → h'.get? b = some o) → R (.ok (.ret v)) { s with heap := h', toks := tk }) →
    codeAny (model prog w) A (.builtin "min.loop" ⟨[.ref I, .none, .ref S], []⟩) R s := by
  have hname : (toString "min" ++ toString ".loop" : String) = "min.loop" := by decide
  have W := Walks.list (prog := prog) (w := w) (A := A.in1) hh I l hlI vs.toArray
  have hsz : vs.toArray.size = vs.length := List.size_toArray ..
  have okS : ∀ (g : Heap) (f : Obj → Obj), (∀ b o, h.get? b = some o → g.get? b = some o) → ∀ b o, h.get? b = some o → (g.update S f).get? b = some o := fun g f k b o e =>
    (Heap.get?_update_other _ _ (fun q : S = b => by rw [← q, hS0] at e; cases e)).trans (k b o e)
  intro k
  induction k with
  | zero =>
    intro j s vb c hk hj hit hl kp hPb hS hR
    have hin : j + 1 = vs.length := by omega
    refine codeAny_builtin F.entry_min_loop ?_
    rw [Around.under_plainId F.plain_min_loop _]
    show wpAny _ A.in1 (seqItems? (.ref S) >>= _) _ _ s
    refine wpAny_bind (wpAny_seqItems hS rfl ?_)
    show wpAny _ A.in1 (tryCatch (pyNext (.ref I)) _ >>= _) _ _ s
    refine wpAny_bind (wpAny_tryCatch (W.done s _ _ ⟨by rw [hsz, ← hin]; exact hit, hl⟩ fun h' tk hk' => ?_))
    have hS' := hk' S _ (by simpa using hSI) hS
    show wpAny _ A.in1 (updateSeq S (fun _ => #[]) >>= _) _ _ _
    refine wpAny_bind ?_
    refine wpAny_updateSeq hS' rfl (wpAny_bind (wpAny_letGo (wpAny_pure ?_)))
    exact hR vb _ tk (by rw [← hin]; exact hPb) (okS _ _ fun b o e => hk' b o (fun q => by rw [List.mem_singleton.mp q, hI] at e; cases e) (kp b o e))
  | succ k ih =>
    intro j s vb c hk hj hit hl kp hPb hS hR
    have hlt : j + 1 < vs.length := by omega
    refine codeAny_builtin F.entry_min_loop ?_
    rw [Around.under_plainId F.plain_min_loop _]
    show wpAny _ A.in1 (seqItems? (.ref S) >>= _) _ _ s
    refine wpAny_bind (wpAny_seqItems hS rfl ?_)
    show wpAny _ A.in1 (tryCatch (pyNext (.ref I)) _ >>= _) _ _ s
    refine wpAny_bind (wpAny_tryCatch (W.item (j + 1) s _ _ (by rw [hsz]; exact hlt) ⟨hit, hl⟩ fun v h' tk hP hst' hk' => ?_))
    have hv : vs[j + 1]? = some v := by simpa using hP
    have hS' := hk' S _ (by simpa using hSI) hS
    have kp' : ∀ b o, h.get? b = some o → h'.get? b = some o := fun b o e => hk' b o (fun q => by rw [List.mem_singleton.mp q, hI] at e; cases e) (kp b o e)
    show wpAny _ A.in1 (tryCatch (holding [v, v] (richCompare .Lt v vb >>= _)) _ >>= _) _ _ _
    refine wpAny_bind (wpAny_tryCatch (wpAny_holding (wpAny_bind (hcmp (j + 1) (argBest bt j) v vb _ _ _ hv hPb kp' ?_))))
    refine wpAny_bind (wpAny_holding (wpAny_truthy_bool ?_))
    refine wpAny_bind (wpAny_letGo (wpAny_pure ?_))
    cases hb : bt (j + 1) (argBest bt j) with
    | true =>
      simp only [if_true]
      refine wpAny_bind ?_
      refine wpAny_updateSeq hS' rfl (wpAny_bind (wpAny_letGo ?_))
      rw [hname]
      refine wpAny_pure ⟨plainId_quiet F.plain_min_loop _, ih (j + 1) _ v _ (by omega) hlt (hst'.1.at fun o e => ?_) (hst'.2.at fun o e => ?_) (okS _ _ kp') (by simp only [argBest, hb, if_true]; exact hv) (Heap.get?_update_self _ hS' rfl)
        fun v' h'' tk'' hP' hk'' => hR v' h'' tk'' hP' hk''⟩
      · exact (Heap.get?_update_other _ _ hSI).trans e
      · exact (Heap.get?_update_other _ _ (Ne.symm hlS)).trans e
    | false =>
      simp only [Bool.false_eq_true, if_false]
      refine wpAny_bind (wpAny_letGo ?_)
      rw [hname]
      exact wpAny_pure ⟨plainId_quiet F.plain_min_loop _, ih (j + 1) _ vb c (by omega) hlt hst'.1 hst'.2 kp' (by simp only [argBest, hb, Bool.false_eq_true, if_false]; exact hPb) hS' fun v' h'' tk'' hP' hk'' => hR v' h'' tk'' hP' hk''⟩
theorem min_refs {Q : Value → Shared → Prop} {s : Shared} (hh : A.handled = none) (bt : Nat → Nat → Bool) (hl : s.heap.IsList l vs.toArray) (hn : 0 < vs.length) (hcmp : CmpAt prog w A.in1 .Lt s.heap vs bt)
    (hQ : ∀ v h' tk, vs[argBest bt (vs.length - 1)]? = some v → (∀ b o, s.heap.get? b = some o → h'.get? b = some o) → Q v { s with heap := h', toks := tk }) :
    wpAny (model prog w) A (call (.builtin "min") [.ref l]) Q E s := by
  have hname : (toString "min" ++ toString ".loop" : String) = "min.loop" := by decide
  obtain ⟨ol, hol, _⟩ := id hl
  have hll : l < s.heap.objs.size := Heap.lt_size hol
  refine call_function_tree F.kind_min F.plain_min F.entry_min (F.args_min1 _) ?_
  show wpAny _ A.in1 (Builtin.Builtins.bindParams "min" ["key", "default"] 0 ⟨[], []⟩ >>= _) _ _ s
  refine wpAny_bind (wpAny_of_eq (show Builtin.Builtins.bindParams "min" ["key", "default"] 0 ⟨[], []⟩ = pure [none, none] from rfl) ?_)
  refine wpAny_bind (wpAny_pure ?_)
  refine wpAny_bind (wpAny_pyIter_list hl ?_)
  refine wpAny_bind (wpAny_newObj_type ?_)
  rw [hname]
  generalize hH1 : s.heap.push _ = H1
  have hS : H1.objs.size = s.heap.objs.size + 1 := by rw [← hH1]; exact size_push' ..
  have gI : H1.get? s.heap.objs.size = some _ := hH1 ▸ Heap.get?_push_size _ rfl
  have old : ∀ b o, s.heap.get? b = some o → H1.get? b = some o := fun b o e => hH1 ▸ Heap.get?_push_of_some _ e
  have new : ∀ a, s.heap.objs.size ≤ a → s.heap.get? a = none := fun a ha => by
    cases e : s.heap.get? a with
    | none => rfl
    | some o' => exact absurd (Heap.lt_size e) (Nat.not_lt.mpr ha)
  have hlI : l ≠ s.heap.objs.size := Nat.ne_of_lt hll
  have hSI : H1.objs.size ≠ s.heap.objs.size := by rw [hS]; exact Nat.ne_of_gt (Nat.lt_succ_self _)
  have hlS : l ≠ H1.objs.size := by rw [hS]; exact Nat.ne_of_lt (Nat.lt_succ_of_lt hll)
  refine wpAny_pure ⟨plainId_quiet F.plain_min_loop _, ?_⟩
  have W := Walks.list (prog := prog) (w := w) (A := A.in1) hh s.heap.objs.size l hlI vs.toArray
  have hsz : vs.toArray.size = vs.length := List.size_toArray ..
  have hit : (H1.push { cls := .type "list", dict := none, data := .seq ([] : List Value).toArray }).IsListIter s.heap.objs.size l 0 := ⟨_, Heap.get?_push_of_some _ gI, rfl, rfl⟩
  have hl1 : (H1.push { cls := .type "list", dict := none, data := .seq ([] : List Value).toArray }).IsList l vs.toArray := hl.at fun o e => Heap.get?_push_of_some _ (old _ _ e)
  have gS : (H1.push { cls := .type "list", dict := none, data := .seq ([] : List Value).toArray }).get? H1.objs.size = some { cls := .type "list", dict := none, data := .seq ([] : List Value).toArray } := Heap.get?_push_size _ rfl
  refine codeAny_builtin F.entry_min_loop ?_
  rw [Around.under_plainId F.plain_min_loop _]
  show wpAny _ A.in1 (seqItems? (.ref _) >>= _) _ _ _
  refine wpAny_bind (wpAny_seqItems gS rfl ?_)
  show wpAny _ A.in1 (tryCatch (pyNext (.ref s.heap.objs.size)) _ >>= _) _ _ _
  refine wpAny_bind (wpAny_tryCatch (W.item 0 _ _ _ (by rw [hsz]; exact hn) ⟨hit, hl1⟩ fun v h' tk hP hst' hk' => ?_))
  have hv : vs[0]? = some v := by simpa using hP
  have hS' := hk' _ _ (by simpa using hSI) gS
  show wpAny _ A.in1 (updateSeq H1.objs.size (fun _ => #[v, v]) >>= _) _ _ _
  refine wpAny_bind ?_
  refine wpAny_updateSeq hS' rfl ?_
  rw [hname]
  refine wpAny_pure ⟨plainId_quiet F.plain_min_loop _, min_go hh bt s.heap hcmp hlI hSI hlS (new _ (Nat.le_refl _)) (new _ (by rw [hS]; exact Nat.le_succ _)) _ 0 _ v _ rfl hn (hst'.1.at fun o e => ?_) (hst'.2.at fun o e => ?_) (fun b o e => ?_) hv (Heap.get?_update_self _ hS' rfl) hQ⟩
  · exact (Heap.get?_update_other _ _ hSI).trans e
  · exact (Heap.get?_update_other _ _ (Ne.symm hlS)).trans e
  · have hb := Heap.lt_size e
    exact (Heap.get?_update_other _ _ (by rw [hS]; exact Nat.ne_of_gt (Nat.lt_succ_of_lt hb))).trans (hk' b o (fun q => absurd hb (by rw [List.mem_singleton.mp q]; exact Nat.lt_irrefl _)) (Heap.get?_push_of_some _ (old _ _ e)))
theorem max_go (hh : A.handled = none) (bt : Nat → Nat → Bool) (h : Heap) (hcmp : CmpAt prog w A.in1 .Gt h vs bt) (hlI : l ≠ I) (hSI : S ≠ I) (hlS : l ≠ S) (hI : h.get? I = none) (hS0 : h.get? S = none) :
    ∀ (k j : Nat) (s : Shared) (vb : Value) (c : Nat), vs.length - (j + 1) = k → j + 1 ≤ vs.length → s.heap.IsListIter I l (j + 1) → s.heap.IsList l vs.toArray → (∀ b o, h.get? b = some o → s.heap.get? b = some o) → vs[argBest bt j]? = some vb →
    s.heap.get? S = some { cls := .type "list", dict := none, data := .seq #[vb, vb] c, slots := #[] } →
    (∀ v h' tk, vs[argBest bt (vs.length - 1)]? = some v → (∀ b o, h.get? b = some o → h'.get? b = some o) → R (.ok (.ret v)) { s with heap := h', toks := tk }) →
    codeAny (model prog w) A (.builtin "max.loop" ⟨[.ref I, .none, .ref S], []⟩) R s := by
  have hname : (toString "max" ++ toString ".loop" : String) = "max.loop" := by decide
  have W := Walks.list (prog := prog) (w := w) (A := A.in1) hh I l hlI vs.toArray
  have hsz : vs.toArray.size = vs.length := List.size_toArray ..
  have okS : ∀ (g : Heap) (f : Obj → Obj), (∀ b o, h.get? b = some o → g.get? b = some o) → ∀ b o, h.get? b = some o → (g.update S f).get? b = some o := fun g f k b o e =>
    (Heap.get?_update_other _ _ (fun q : S = b => by rw [← q, hS0] at e; cases e)).trans (k b o e)
  intro k
  induction k with
  | zero =>
    intro j s vb c hk hj hit hl kp hPb hS hR
    have hin : j + 1 = vs.length := by omega
    refine codeAny_builtin F.entry_max_loop ?_
    rw [Around.under_plainId F.plain_max_loop _]
    show wpAny _ A.in1 (seqItems? (.ref S) >>= _) _ _ s
    refine wpAny_bind (wpAny_seqItems hS rfl ?_)
    show wpAny _ A.in1 (tryCatch (pyNext (.ref I)) _ >>= _) _ _ s
    refine wpAny_bind (wpAny_tryCatch (W.done s _ _ ⟨by rw [hsz, ← hin]; exact hit, hl⟩ fun h' tk hk' => ?_))
    have hS' := hk' S _ (by simpa using hSI) hS
    show wpAny _ A.in1 (updateSeq S (fun _ => #[]) >>= _) _ _ _
    refine wpAny_bind ?_
    refine wpAny_updateSeq hS' rfl (wpAny_bind (wpAny_letGo (wpAny_pure ?_)))
    exact hR vb _ tk (by rw [← hin]; exact hPb) (okS _ _ fun b o e => hk' b o (fun q => by rw [List.mem_singleton.mp q, hI] at e; cases e) (kp b o e))
  | succ k ih =>
    intro j s vb c hk hj hit hl kp hPb hS hR
    have hlt : j + 1 < vs.length := by omega
    refine codeAny_builtin F.entry_max_loop ?_
    rw [Around.under_plainId F.plain_max_loop _]
    show wpAny _ A.in1 (seqItems? (.ref S) >>= _) _ _ s
    refine wpAny_bind (wpAny_seqItems hS rfl ?_)
    show wpAny _ A.in1 (tryCatch (pyNext (.ref I)) _ >>= _) _ _ s
    refine wpAny_bind (wpAny_tryCatch (W.item (j + 1) s _ _ (by rw [hsz]; exact hlt) ⟨hit, hl⟩ fun v h' tk hP hst' hk' => ?_))
    have hv : vs[j + 1]? = some v := by simpa using hP
    have hS' := hk' S _ (by simpa using hSI) hS
    have kp' : ∀ b o, h.get? b = some o → h'.get? b = some o := fun b o e => hk' b o (fun q => by rw [List.mem_singleton.mp q, hI] at e; cases e) (kp b o e)
    show wpAny _ A.in1 (tryCatch (holding [v, v] (richCompare .Gt v vb >>= _)) _ >>= _) _ _ _
    refine wpAny_bind (wpAny_tryCatch (wpAny_holding (wpAny_bind (hcmp (j + 1) (argBest bt j) v vb _ _ _ hv hPb kp' ?_))))
    refine wpAny_bind (wpAny_holding (wpAny_truthy_bool ?_))
    refine wpAny_bind (wpAny_letGo (wpAny_pure ?_))
    cases hb : bt (j + 1) (argBest bt j) with
    | true =>
      simp only [if_true]
      refine wpAny_bind ?_
      refine wpAny_updateSeq hS' rfl (wpAny_bind (wpAny_letGo ?_))
      rw [hname]
      refine wpAny_pure ⟨plainId_quiet F.plain_max_loop _, ih (j + 1) _ v _ (by omega) hlt (hst'.1.at fun o e => ?_) (hst'.2.at fun o e => ?_) (okS _ _ kp') (by simp only [argBest, hb, if_true]; exact hv) (Heap.get?_update_self _ hS' rfl)
        fun v' h'' tk'' hP' hk'' => hR v' h'' tk'' hP' hk''⟩
      · exact (Heap.get?_update_other _ _ hSI).trans e
      · exact (Heap.get?_update_other _ _ (Ne.symm hlS)).trans e
    | false =>
      simp only [Bool.false_eq_true, if_false]
      refine wpAny_bind (wpAny_letGo ?_)
      rw [hname]
      exact wpAny_pure ⟨plainId_quiet F.plain_max_loop _, ih (j + 1) _ vb c (by omega) hlt hst'.1 hst'.2 kp' (by simp only [argBest, hb, Bool.false_eq_true, if_false]; exact hPb) hS' fun v' h'' tk'' hP' hk'' => hR v' h'' tk'' hP' hk''⟩
theorem max_refs {Q : Value → Shared → Prop} {s : Shared} (hh : A.handled = none) (bt : Nat → Nat → Bool) (hl : s.heap.IsList l vs.toArray) (hn : 0 < vs.length) (hcmp : CmpAt prog w A.in1 .Gt s.heap vs bt)
    (hQ : ∀ v h' tk, vs[argBest bt (vs.length - 1)]? = some v → (∀ b o, s.heap.get? b = some o → h'.get? b = some o) → Q v { s with heap := h', toks := tk }) :
    wpAny (model prog w) A (call (.builtin "max") [.ref l]) Q E s := by
  have hname : (toString "max" ++ toString ".loop" : String) = "max.loop" := by decide
  obtain ⟨ol, hol, _⟩ := id hl
  have hll : l < s.heap.objs.size := Heap.lt_size hol
  refine call_function_tree F.kind_max F.plain_max F.entry_max (F.args_max1 _) ?_
  show wpAny _ A.in1 (Builtin.Builtins.bindParams "max" ["key", "default"] 0 ⟨[], []⟩ >>= _) _ _ s
  refine wpAny_bind (wpAny_of_eq (show Builtin.Builtins.bindParams "max" ["key", "default"] 0 ⟨[], []⟩ = pure [none, none] from rfl) ?_)
  refine wpAny_bind (wpAny_pure ?_)
  refine wpAny_bind (wpAny_pyIter_list hl ?_)
  refine wpAny_bind (wpAny_newObj_type ?_)
  rw [hname]
  generalize hH1 : s.heap.push _ = H1
  have hS : H1.objs.size = s.heap.objs.size + 1 := by rw [← hH1]; exact size_push' ..
  have gI : H1.get? s.heap.objs.size = some _ := hH1 ▸ Heap.get?_push_size _ rfl
  have old : ∀ b o, s.heap.get? b = some o → H1.get? b = some o := fun b o e => hH1 ▸ Heap.get?_push_of_some _ e
  have new : ∀ a, s.heap.objs.size ≤ a → s.heap.get? a = none := fun a ha => by
    cases e : s.heap.get? a with
    | none => rfl
    | some o' => exact absurd (Heap.lt_size e) (Nat.not_lt.mpr ha)
  have hlI : l ≠ s.heap.objs.size := Nat.ne_of_lt hll
  have hSI : H1.objs.size ≠ s.heap.objs.size := by rw [hS]; exact Nat.ne_of_gt (Nat.lt_succ_self _)
  have hlS : l ≠ H1.objs.size := by rw [hS]; exact Nat.ne_of_lt (Nat.lt_succ_of_lt hll)
  refine wpAny_pure ⟨plainId_quiet F.plain_max_loop _, ?_⟩
  have W := Walks.list (prog := prog) (w := w) (A := A.in1) hh s.heap.objs.size l hlI vs.toArray
  have hsz : vs.toArray.size = vs.length := List.size_toArray ..
  have hit : (H1.push { cls := .type "list", dict := none, data := .seq ([] : List Value).toArray }).IsListIter s.heap.objs.size l 0 := ⟨_, Heap.get?_push_of_some _ gI, rfl, rfl⟩
  have hl1 : (H1.push { cls := .type "list", dict := none, data := .seq ([] : List Value).toArray }).IsList l vs.toArray := hl.at fun o e => Heap.get?_push_of_some _ (old _ _ e)
  have gS : (H1.push { cls := .type "list", dict := none, data := .seq ([] : List Value).toArray }).get? H1.objs.size = some { cls := .type "list", dict := none, data := .seq ([] : List Value).toArray } := Heap.get?_push_size _ rfl
  refine codeAny_builtin F.entry_max_loop ?_
  rw [Around.under_plainId F.plain_max_loop _]
  show wpAny _ A.in1 (seqItems? (.ref _) >>= _) _ _ _
  refine wpAny_bind (wpAny_seqItems gS rfl ?_)
  show wpAny _ A.in1 (tryCatch (pyNext (.ref s.heap.objs.size)) _ >>= _) _ _ _
  refine wpAny_bind (wpAny_tryCatch (W.item 0 _ _ _ (by rw [hsz]; exact hn) ⟨hit, hl1⟩ fun v h' tk hP hst' hk' => ?_))
  have hv : vs[0]? = some v := by simpa using hP
  have hS' := hk' _ _ (by simpa using hSI) gS
  show wpAny _ A.in1 (updateSeq H1.objs.size (fun _ => #[v, v]) >>= _) _ _ _
  refine wpAny_bind ?_
  refine wpAny_updateSeq hS' rfl ?_
  rw [hname]
  refine wpAny_pure ⟨plainId_quiet F.plain_max_loop _, max_go hh bt s.heap hcmp hlI hSI hlS (new _ (Nat.le_refl _)) (new _ (by rw [hS]; exact Nat.le_succ _)) _ 0 _ v _ rfl hn (hst'.1.at fun o e => ?_) (hst'.2.at fun o e => ?_) (fun b o e => ?_) hv (Heap.get?_update_self _ hS' rfl) hQ⟩
  · exact (Heap.get?_update_other _ _ hSI).trans e
  · exact (Heap.get?_update_other _ _ (Ne.symm hlS)).trans e
  · have hb := Heap.lt_size e
    exact (Heap.get?_update_other _ _ (by rw [hS]; exact Nat.ne_of_gt (Nat.lt_succ_of_lt hb))).trans (hk' b o (fun q => absurd hb (by rw [List.mem_singleton.mp q]; exact Nat.lt_irrefl _)) (Heap.get?_push_of_some _ (old _ _ e)))
end
end
section
structure SiD where
  a : Addr
  b : Int
  t : Int
  t1 : Tok
  t2 : Tok
noncomputable abbrev SiD.obj (f : SiD) : Addr × Obj := (f.a, tupOf [.int f.b f.t1, .int f.t f.t2])
noncomputable abbrev SiD.ref (f : SiD) : Value := .ref f.a
noncomputable abbrev SiD.val (f : SiD) : Int × Int := (f.b, f.t)
noncomputable def siLed (fs : List SiD) : List (Addr × Obj) := fs.map SiD.obj
section
open PyProof.Rows PySem.SeqAt
noncomputable def ltP (a b : Int × Int) : Bool := decide (a.1 < b.1 ∨ (a.1 = b.1 ∧ a.2 < b.2))
theorem bestOf_min (lt : Nat → Nat → Bool) (tr : ∀ a b c, lt b a = false → lt c b = false → lt c a = false) (as : ∀ a b, lt a b = true → lt b a = false) (ir : ∀ a, lt a a = false) :
    ∀ k, ∀ j, j ≤ k → lt j (argBest lt k) = false
  | 0, j, h => by rw [Nat.le_zero.mp h]; exact ir _
  | k + 1, j, h => by
    rw [argBest]
    by_cases hb : lt (k + 1) (argBest lt k) = true
    · rw [if_pos hb]
      rcases Nat.lt_or_ge j (k + 1) with h' | h'
      · exact tr _ _ _ (as _ _ hb) (bestOf_min lt tr as ir k j (by lia))
      · rw [show j = k + 1 by lia]; exact ir _
    · rw [if_neg hb]
      rcases Nat.lt_or_ge j (k + 1) with h' | h'
      · exact bestOf_min lt tr as ir k j (by lia)
      · rw [show j = k + 1 by lia]; simpa using hb
theorem ltP_irr (a : Int × Int) : ltP a a = false := by simp [ltP]
theorem ltP_asym (a b : Int × Int) (h : ltP a b = true) : ltP b a = false := by simp [ltP] at *; lia
theorem ltP_trans (a b c : Int × Int) (h : ltP b a = false) (h' : ltP c b = false) : ltP c a = false := by simp [ltP] at *; lia
variable {prog : Program} {w : World} {A : Around} {E : Value → Shared → Prop} {s : Shared} {h₀ : Heap} {L l : Addr} {m : Str → Option Value} {news : List (Addr × Obj)}
theorem two_lt (A : Around) (s : Shared) (x y : Addr) (a b c d : Int) (ta tb tc td : Tok) (hx : s.heap.IsTuple x #[.int a ta, .int b tb]) (hy : s.heap.IsTuple y #[.int c tc, .int d td]) (hu : A.units < cLine) : OpAt .Lt A s (.ref x) (.ref y) (ltP (a, b) (c, d)) := by
  have h := OpAt.tuples (e := fun j => if j = 0 then a == c else b == d) (c := fun j => if j = 0 then decide (a < c) else decide (b < d)) hx hy hu
    (fun j h1 h2 => by
      rcases j with _ | _ | j
      · exact EqAt.int_int a ta c tc
      · exact EqAt.int_int b tb d td
      · exact absurd h1 (by simp))
    (fun j h1 h2 _ => by
      rcases j with _ | _ | j
      · exact OpAt.int_lt a c ta tc
      · exact OpAt.int_lt b d tb td
      · exact absurd h1 (by simp))
  have e : firstCmp (fun j => if j = 0 then a == c else b == d) (fun j => if j = 0 then decide (a < c) else decide (b < d)) (decide ((#[Value.int a ta, .int b tb] : Array Value).size < (#[Value.int c tc, .int d td] : Array Value).size)) (min (#[Value.int a ta, .int b tb] : Array Value).size (#[Value.int c tc, .int d td] : Array Value).size) 0 = ltP (a, b) (c, d) := by
    show firstCmp _ _ false 2 0 = _
    simp only [firstCmp, ltP]
    by_cases h1 : a = c <;> by_cases h2 : b = d <;> simp [h1, h2] <;> lia
  rw [e] at h
  exact h
theorem min_pairs {Q : Value → Shared → Prop} {n : Nat} {ss : List SiD} (hh : A.handled = none) (F : Fr h₀ L s.heap m) (N : News h₀ L s.heap news) (hm : (l, listOf (ss.map SiD.ref).toArray n) ∈ news) (hs : ∀ q ∈ ss, q.obj ∈ news) (hne : ss ≠ []) (hu : A.in1.units < cLine)
    (h : ∀ q h' tk, q ∈ ss → (∀ q' ∈ ss, ltP q'.val q.val = false) → Fr h₀ L h' m → News h₀ L h' news → Q q.ref { s with heap := h', toks := tk }) :
    wpAny (model prog w) A (call (.builtin "min") [.ref l]) Q E s := by
  have hl : s.heap.IsList l (ss.map SiD.ref).toArray := ⟨_, (N _ hm).1, rfl, n, rfl⟩
  have tup : ∀ q ∈ ss, ∀ h' : Heap, (∀ b o, s.heap.get? b = some o → h'.get? b = some o) → h'.IsTuple q.a #[.int q.b q.t1, .int q.t q.t2] := fun q hq h' k => ⟨_, k _ _ (N _ (hs q hq)).1, rfl, 0, rfl⟩
  refine min_refs hh (fun i j => ltP ((ss.map SiD.val).getD i (0, 0)) ((ss.map SiD.val).getD j (0, 0))) hl (by rw [List.length_map]; exact List.length_pos_iff.mpr hne) ?_ ?_
  · intro i j vi vj s' Q' E' hi hj kp hQ
    rw [List.getElem?_map] at hi hj
    cases hqi : ss[i]? with
    | none => rw [hqi] at hi; cases hi
    | some qi =>
      cases hqj : ss[j]? with
      | none => rw [hqj] at hj; cases hj
      | some qj =>
        rw [hqi] at hi; rw [hqj] at hj
        cases hi; cases hj
        have e1 : (ss.map SiD.val).getD i (0, 0) = (qi.b, qi.t) := by rw [List.getD_eq_getElem?_getD, List.getElem?_map, hqi]; rfl
        have e2 : (ss.map SiD.val).getD j (0, 0) = (qj.b, qj.t) := by rw [List.getD_eq_getElem?_getD, List.getElem?_map, hqj]; rfl
        dsimp only at hQ
        rw [e1, e2] at hQ
        exact two_lt _ s' qi.a qj.a _ _ _ _ _ _ _ _ (tup qi (List.mem_of_getElem? hqi) _ kp) (tup qj (List.mem_of_getElem? hqj) _ kp) hu _ _ _ _ hQ
  · intro v h' tk hv kp
    rw [List.getElem?_map] at hv
    generalize hb : argBest _ _ = bi at hv
    cases hq : ss[bi]? with
    | none => rw [hq] at hv; cases hv
    | some q =>
      rw [hq] at hv; cases hv
      refine h q h' tk (List.mem_of_getElem? hq) (fun q' hq' => ?_) (F.grownK kp) (N.grown kp)
      obtain ⟨j, hj, ej⟩ := List.getElem_of_mem hq'
      have := bestOf_min (fun i j => ltP ((ss.map SiD.val).getD i (0, 0)) ((ss.map SiD.val).getD j (0, 0))) (fun a b c => ltP_trans _ _ _) (fun a b => ltP_asym _ _) (fun a => ltP_irr _) ((ss.map SiD.ref).length - 1) j (by rw [List.length_map]; lia)
      rw [hb] at this
      have e1 : (ss.map SiD.val).getD j (0, 0) = q'.val := by rw [List.getD_eq_getElem?_getD, List.getElem?_map, List.getElem?_eq_getElem hj, ej]; rfl
      have e2 : (ss.map SiD.val).getD bi (0, 0) = q.val := by rw [List.getD_eq_getElem?_getD, List.getElem?_map, hq]; rfl
      rw [← e1, ← e2]; exact this
end
end
section
namespace F
theorem owner_map : Manifest.owners.lookup (String.ofList ['p', 'a', 'm'].reverse) = some Manifest.sig_map := by kernel_rfl
theorem slot_map_iter : Slot "map" "__iter__" "map.__iter__" :=
  .of (owner := "map") (n := "__iter__") (by rw [typeLookup_type, builtinLookup_eq_fast]; kernel_rfl) (by decide +kernel) (by decide +kernel) (by decide +kernel)
    (by first | exact .inl (by decide +kernel) | exact .inr (by decide +kernel)) (by rw [isSubtype_type]; kernel_rfl)
theorem args_map_iter (a : Value) : argsOk "map.__iter__" ⟨[a], []⟩ := by
  unfold argsOk; rw [signature?_of (id := "map.__iter__") (n := ['_', '_', 'r', 'e', 't', 'i', '_', '_']) (o := ['p', 'a', 'm']) (by kernel_rfl) owner_map]; kernel_rfl
theorem entry_map_iter : entryFor table "map.__iter__" = some Builtin.«dict_keyiterator.__iter__» :=
  entryFor_alias (id' := "dict_keyiterator.__iter__") (by rw [fastTable_eq_tree]; kernel_rfl) rfl (by decide +kernel) (by rw [fastTable_eq_tree]; kernel_rfl)
theorem slot_map_next : Slot "map" "__next__" "map.__next__" :=
  .of (owner := "map") (n := "__next__") (by rw [typeLookup_type, builtinLookup_eq_fast]; kernel_rfl) (by decide +kernel) (by decide +kernel) (by decide +kernel)
    (by first | exact .inl (by decide +kernel) | exact .inr (by decide +kernel)) (by rw [isSubtype_type]; kernel_rfl)
theorem args_map_next (a : Value) : argsOk "map.__next__" ⟨[a], []⟩ := by
  unfold argsOk; rw [signature?_of (id := "map.__next__") (n := ['_', '_', 't', 'x', 'e', 'n', '_', '_']) (o := ['p', 'a', 'm']) (by kernel_rfl) owner_map]; kernel_rfl
theorem entry_map_next : entryFor table "map.__next__" = some Builtin.«map.__next__» := entryFor_of_tree (by kernel_rfl)
theorem owner_set_iterator : Manifest.owners.lookup (String.ofList ['r', 'o', 't', 'a', 'r', 'e', 't', 'i', '_', 't', 'e', 's'].reverse) = some Manifest.sig_set_iterator := by kernel_rfl
theorem slot_set_iterator_next : Slot "set_iterator" "__next__" "set_iterator.__next__" :=
  .of (owner := "set_iterator") (n := "__next__") (by rw [typeLookup_type, builtinLookup_eq_fast]; kernel_rfl) (by decide +kernel) (by decide +kernel) (by decide +kernel)
    (by first | exact .inl (by decide +kernel) | exact .inr (by decide +kernel)) (by rw [isSubtype_type]; kernel_rfl)
theorem args_set_iterator_next (a : Value) : argsOk "set_iterator.__next__" ⟨[a], []⟩ := by
  unfold argsOk; rw [signature?_of (id := "set_iterator.__next__") (n := ['_', '_', 't', 'x', 'e', 'n', '_', '_']) (o := ['r', 'o', 't', 'a', 'r', 'e', 't', 'i', '_', 't', 'e', 's']) (by kernel_rfl) owner_set_iterator]; kernel_rfl
theorem entry_set_iterator_next : entryFor table "set_iterator.__next__" = some Builtin.«set_iterator.__next__» := entryFor_of_tree (by kernel_rfl)
theorem slot_map_init : Slot "map" "__init__" "object.__init__" :=
  .of (owner := "object") (n := "__init__") (by rw [typeLookup_type, builtinLookup_eq_fast]; kernel_rfl) (by decide +kernel) (by decide +kernel) (by decide +kernel)
    (by first | exact .inl (by decide +kernel) | exact .inr (by decide +kernel)) (by rw [isSubtype_type]; kernel_rfl)
theorem mro_map : mroOf (.type "map") = pure [.type "map", .type "object"] := by rw [mroOf_type]; kernel_rfl
theorem lookup_map_new : typeLookup (.type "map") "__new__" = pure (some (.builtin "map.__new__")) := by rw [typeLookup_type, builtinLookup_eq_fast]; kernel_rfl
theorem called_map : TypeCalled "map" "map.__new__" "object.__init__" :=
  ⟨by decide +kernel, by decide +kernel, ⟨_, _, mro_map⟩, madeBy_type mro_map lookup_map_new (by decide +kernel), by decide +kernel, by rw [isSubtype_type]; kernel_rfl, slot_map_init⟩
theorem typeCall_map_2 (a b : Value) : checkTypeCall "map" ⟨[a, b], []⟩ = pure () := by kernel_rfl
theorem newCall_map_2 (a b : Value) : checkBuiltinCall "map.__new__" ⟨[.type "map", a, b], []⟩ = pure () := by kernel_rfl
theorem entry_map_new : entryFor table "map.__new__" = some Builtin.«map.__new__» := entryFor_of_tree (by kernel_rfl)
theorem args_object_init_3 (a b c : Value) : argsOk "object.__init__" ⟨[a, b, c], []⟩ := by unfold argsOk; rw [signature?_of (id := "object.__init__") (n := ['_', '_', 't', 'i', 'n', 'i', '_', '_']) (o := ['t', 'c', 'e', 'j', 'b', 'o']) (by kernel_rfl) PySem.F.owner_object]; kernel_rfl
theorem map_no_len : typeLookup (.type "map") "__len__" = pure none := by rw [typeLookup_type, builtinLookup_eq_fast]; kernel_rfl
theorem map_no_hint : typeLookup (.type "map") "__length_hint__" = pure none := by rw [typeLookup_type, builtinLookup_eq_fast]; kernel_rfl
theorem sub_map : isSubtype (.type "map") (.type "map") = pure true := by rw [isSubtype_type]; kernel_rfl
end F
section
open AutoSeq1 (wpAny_loadPart')
theorem meets_map_new (f : Value) (l : Addr) (items : Array Value) (n : Nat) :
    Meets (Builtin.«map.__new__» ⟨[.type "map", f, .ref l], []⟩) (fun _ R s => s.heap.get? l = some { cls := .type "list", dict := none, data := .seq items n, slots := #[] } ∧
      R (.ok (.ret (.ref ((s.heap.push { cls := .type "list_iterator", data := .fields #[.ref l, .int 0 0] }).push { cls := .type "tuple", data := .seq #[.ref s.heap.objs.size] }).objs.size)))
        { s with heap := ((s.heap.push { cls := .type "list_iterator", data := .fields #[.ref l, .int 0 0] }).push { cls := .type "tuple", data := .seq #[.ref s.heap.objs.size] }).push { cls := .type "map", data := .fields #[.ref (s.heap.push { cls := .type "list_iterator", data := .fields #[.ref l, .int 0 0] }).objs.size, f] } }) :=
  .of_wp fun prog w A R s h => by
    obtain ⟨hp, g, d, tk, os⟩ := s; obtain ⟨hl, h⟩ := h
    have hL : Heap.IsList (Shared.heap ⟨hp, g, d, tk, os⟩) l items := ⟨_, hl, rfl, n, rfl⟩
    unfold Builtin.«map.__new__» Builtin.SmallTypes.newClass
    refine wpAny_bind (wpAny_bind (wpAny_of_eq (show isType (.type "map") = pure true from rfl) ?_))
    refine wpAny_bind (wpAny_of_eq F.sub_map ?_)
    refine wpAny_pure ?_
    dsimp only
    unfold Builtin.SmallTypes.refuseKeywords
    refine wpAny_bind (wpAny_pure ?_)
    rw [if_neg (show ¬ [f, Value.ref l].length < 2 from Nat.lt_irrefl 2)]
    unfold Builtin.SmallTypes.iterAll
    refine wpAny_bind (wpAny_bind ?_)
    simp only [List.drop_succ_cons, List.drop_zero, List.forIn_cons, List.forIn_nil]
    refine wpAny_bind (wpAny_bind (wpAny_holding (wpAny_pyIter_list hL ?_)))
    refine wpAny_pure (wpAny_pure (wpAny_pure ?_))
    refine wpAny_bind (wpAny_newTuple ?_ (by rw [PySem.sizeLine_eq]; exact Nat.le_of_ble_eq_true rfl))
    refine wpAny_bind (m := Builtin.SmallTypes.newRecord _ _) ?_
    unfold Builtin.SmallTypes.newRecord
    refine wpAny_newObj_type ?_
    exact wpAny_pure ⟨_, rfl, h⟩
end
end
section
section
open PyProof.Rows
open AutoSeq1 (wpAny_loadPart')
noncomputable abbrev mapObj (T : Addr) (f : Value) : Obj := { cls := .type "map", data := .fields #[.ref T, f] }
noncomputable abbrev liObj (l : Addr) (i : Nat) : Obj := { cls := .type "list_iterator", data := .fields #[.ref l, .int i 0] }
variable {prog : Program} {w : World} {A : Around} {E : Value → Shared → Prop} {s : Shared} {h₀ : Heap} {L l : Addr} {m : Str → Option Value} {news : List (Addr × Obj)} {vs : List Value} {f : Value}
theorem map_made {n : Nat} {Q : Value → Shared → Prop} (Fh : Fr h₀ L s.heap m) (N : News h₀ L s.heap news) (hm : (l, listOf vs.toArray n) ∈ news)
    (h : ∀ J T I h', Fr h₀ L h' m → News h₀ L h' ((I, mapObj T f) :: (T, tupOf [.ref J]) :: (J, liObj l 0) :: news) → (∀ p ∈ news, p.1 < J) → J < T → T < I → Q (.ref I) { s with heap := h' }) :
    wpAny (model prog w) A (call (.type "map") [f, .ref l]) Q E s := by
  refine callType_new F.called_map (by decide) (F.typeCall_map_2 _ _) (F.newCall_map_2 _ _) (fun obj => F.args_object_init_3 obj _ _) F.entry_map_new (meets_map_new f l vs.toArray n) ⟨(N _ hm).1, ⟨_, Heap.get?_push_size _ rfl, rfl⟩, ?_⟩
  have N1 := News.push Fh N (liObj l 0) rfl
  have N2 := News.push (Fh.push _) N1 (tupOf [.ref s.heap.objs.size]) rfl
  have N3 := News.push ((Fh.push _).push _) N2 (mapObj (s.heap.push (liObj l 0)).objs.size f) rfl
  have z1 : (s.heap.push (liObj l 0)).objs.size = s.heap.objs.size + 1 := Heap.size_push ..
  have z2 : ((s.heap.push (liObj l 0)).push (tupOf [.ref s.heap.objs.size])).objs.size = s.heap.objs.size + 1 + 1 := by rw [Heap.size_push, z1]
  exact h s.heap.objs.size (s.heap.push (liObj l 0)).objs.size _ _ (((Fh.push _).push _).push _) N3 (fun p hp => Heap.lt_size (N p hp).1) (by rw [z1]; exact Nat.lt_succ_self _) (by rw [z1]; exact z2 ▸ Nat.lt_succ_self _)

theorem map_next_item {I T J : Addr} {i : Nat} {x : Value} {Q : Option Value → Shared → Prop} (hI : s.heap.get? I = some (mapObj T f)) (hT : s.heap.get? T = some (tupOf [.ref J])) (hit : s.heap.IsListIter J l i) (hl : s.heap.IsList l vs.toArray) (hx : vs[i]? = some x) (hIJ : I ≠ J)
    (h : ∀ h', h'.IsListIter J l (i + 1) → Heap.SameBut J s.heap h' → ∀ E', wpAny (model prog w) A.in1 (call f [x]) (fun v s' => Q (some v) s') E' { s with heap := h' }) :
    wpAny (model prog w) A (pyNext (.ref I)) Q E s := by
  have hTI : s.TypeIs (.ref I) "map" := ⟨_, hI, rfl⟩
  unfold pyNext
  refine wpAny_bind (wpAny_attempt (wpAny_callSpecial?_slot (name := Str.ofString "__next__") hTI F.slot_map_next
    (wpAny_call_entry F.slot_map_next hTI F.entry_map_next ?_ (F.args_map_next _))))
  obtain ⟨hp, g, d, tk, os⟩ := s
  have hx' : vs.toArray[i]? = some x := by simpa using hx
  show wpAny _ _ (field (.ref I) 0 >>= _) _ _ _
  refine wpAny_bind (wpAny_field hI rfl (x := .ref T) rfl ?_)
  show wpAny _ _ (seqItems? (.ref T) >>= _) _ _ _
  refine wpAny_bind (wpAny_seqItems hT rfl ?_)
  dsimp only
  rw [show (List.toArray [Value.ref J]) = #[Value.ref J] from rfl, ← Array.forIn_toList]
  simp only [List.forIn_cons, List.forIn_nil]
  refine wpAny_bind (wpAny_bind (wpAny_bind (wpAny_holding (wpAny_nextOf_list_item hit hl hx' fun h' hit' hs' => ?_))))
  refine wpAny_pure ?_
  dsimp only
  refine wpAny_pure ?_
  have hI' : h'.get? I = some (mapObj T f) := (hs'.2 I hIJ).trans hI
  refine wpAny_bind (wpAny_field hI' rfl (x := f) rfl ?_)
  refine wpAny_bind (wpAny_holding (wpAny_mono (h h' hit' hs' _) (fun v s' hv => ?_) fun _ _ e => e))
  exact wpAny_bind (wpAny_letGo (wpAny_pure ⟨v, rfl, wpAny_pure hv⟩))
theorem map_next_end {I T J : Addr} {i : Nat} {Q : Option Value → Shared → Prop} (hh : A.handled = none) (hI : s.heap.get? I = some (mapObj T f)) (hT : s.heap.get? T = some (tupOf [.ref J])) (hit : s.heap.IsListIter J l i) (hl : s.heap.IsList l vs.toArray) (hx : vs[i]? = none)
    (h : ∀ h', Heap.ExtBut J s.heap h' → Q none { s with heap := h' }) :
    wpAny (model prog w) A (pyNext (.ref I)) Q E s := by
  have hTI : s.TypeIs (.ref I) "map" := ⟨_, hI, rfl⟩
  unfold pyNext
  refine wpAny_bind (wpAny_attempt (wpAny_callSpecial?_slot (name := Str.ofString "__next__") hTI F.slot_map_next
    (wpAny_call_entry F.slot_map_next hTI F.entry_map_next ?_ (F.args_map_next _))))
  obtain ⟨hp, g, d, tk, os⟩ := s
  have hx' : vs.toArray[i]? = none := by simpa using hx
  show wpAny _ _ (field (.ref I) 0 >>= _) _ _ _
  refine wpAny_bind (wpAny_field hI rfl (x := .ref T) rfl ?_)
  show wpAny _ _ (seqItems? (.ref T) >>= _) _ _ _
  refine wpAny_bind (wpAny_seqItems hT rfl ?_)
  dsimp only
  rw [show (List.toArray [Value.ref J]) = #[Value.ref J] from rfl, ← Array.forIn_toList]
  simp only [List.forIn_cons, List.forIn_nil]
  refine wpAny_bind (wpAny_bind (wpAny_bind (wpAny_holding (wpAny_nextOf_list_end hh hit hl hx' fun h' x he' hx1 => ?_))))
  obtain ⟨o, ho, hc⟩ := hx1
  refine wpAny_bind (wpAny_isInstance (T := "StopIteration") (b := true) ⟨o, ho, hc⟩ isSubtype_stop ?_)
  exact wpAny_pure (h _ he')
noncomputable def MapTurn (prog : Program) (w : World) (A : Around) (h₀ : Heap) (L : Addr) (m : Str → Option Value) (f : Value) (s : Shared) (vs : List Value) : Prop :=
  ∀ (v : Value) (h : Heap) (tk : Nat) (nw : List (Addr × Obj)) (Q E : Value → Shared → Prop), v ∈ vs → Fr h₀ L h m → News h₀ L h nw →
    (∀ h' tk', Fr h₀ L h' m → News h₀ L h' nw → Q v { s with heap := h', toks := tk' }) → wpAny (model prog w) A (call f [v]) Q E { s with heap := h, toks := tk }
theorem li_is {h : Heap} {J : Addr} {i : Nat} (e : h.get? J = some (liObj l i)) : h.IsListIter J l i := ⟨_, e, rfl, rfl⟩
theorem map_extend {R : Result → Shared → Prop} {I T J S : Addr} {n : Nat} {res : Value} (hh : A.handled = none) (hsz : vs.length ≤ sizeLine) (hm : (l, listOf vs.toArray n) ∈ news)
    (turn : MapTurn prog w A.in1.in1 h₀ L m f s vs) (hIJ : I ≠ J) (hTJ : T ≠ J) (hSJ : S ≠ J) (hIS : I ≠ S) (hTS : T ≠ S) (hnJ : ∀ p ∈ news, p.1 ≠ J) (hnS : ∀ p ∈ news, p.1 ≠ S)
    (hR : ∀ h' tk' c', Fr h₀ L h' m → News h₀ L h' ((S, listOf vs.toArray c') :: news) → R (.ok (.ret res)) { s with heap := h', toks := tk' }) :
    ∀ (k i : Nat) (h : Heap) (tk c : Nat) (oJ : Obj), vs.length - i = k → i ≤ vs.length → h.IsListIter J l i → Fr h₀ L h m → News h₀ L h ((S, listOf (vs.take i).toArray c) :: (J, oJ) :: (I, mapObj T f) :: (T, tupOf [.ref J]) :: news) →
    codeAny (model prog w) A (.builtin "list.extend.loop" ⟨[.ref S, .ref I, res], []⟩) R { s with heap := h, toks := tk } := by
  intro k
  induction k with
  | zero =>
    intro i h tk c oJ hk hi hit Fh N
    have hin : i = vs.length := by lia
    subst hin
    refine codeAny_builtin F.entry_extend_loop ?_
    rw [Around.under_plainId F.plain_extend_loop _]
    show wpAny _ A.in1 (pyNext (.ref I) >>= _) _ _ _
    have nS := N _ (.head _)
    have nJ := N _ (.tail _ (.head _))
    have nI := N _ (.tail _ (.tail _ (.head _)))
    have nT := N _ (.tail _ (.tail _ (.tail _ (.head _))))
    have Nn : News h₀ L h news := fun p hp => N p (.tail _ (.tail _ (.tail _ (.tail _ hp))))
    refine wpAny_bind (map_next_end (s := { s with heap := h, toks := tk }) hh nI.1 nT.1 hit ⟨_, (Nn _ hm).1, rfl, n, rfl⟩ (List.getElem?_eq_none (Nat.le_refl _)) fun h' he => ?_)
    refine wpAny_pure ?_
    have ext : ∀ b o, b ∉ [J] → h.get? b = some o → h'.get? b = some o := fun b o hb e => he b o (fun q => hb (q ▸ List.mem_singleton.mpr rfl)) e
    refine hR h' tk c (kmk_fr Fh ext nJ.2.1 nJ.2.2) ?_
    rw [List.take_length] at nS
    intro p hp
    rcases List.mem_cons.mp hp with rfl | hp
    · exact ⟨ext _ _ (fun q => hSJ (List.mem_singleton.mp q)) nS.1, nS.2⟩
    · exact kmk_news Nn ext hnJ p hp
  | succ k ih =>
    intro i h tk c oJ hk hi hit Fh N
    have hlt : i < vs.length := by lia
    refine codeAny_builtin F.entry_extend_loop ?_
    rw [Around.under_plainId F.plain_extend_loop _]
    show wpAny _ A.in1 (pyNext (.ref I) >>= _) _ _ _
    have nS := N _ (.head _)
    have nJ := N _ (.tail _ (.head _))
    have nI := N _ (.tail _ (.tail _ (.head _)))
    have nT := N _ (.tail _ (.tail _ (.tail _ (.head _))))
    have Nn : News h₀ L h news := fun p hp => N p (.tail _ (.tail _ (.tail _ (.tail _ hp))))
    refine wpAny_bind (map_next_item (s := { s with heap := h, toks := tk }) nI.1 nT.1 hit ⟨_, (Nn _ hm).1, rfl, n, rfl⟩ (List.getElem?_eq_getElem hlt) hIJ fun h1 hit1 hs1 E' => ?_)
    obtain ⟨oJ', eJ', rJ'⟩ := id hit1
    have F1 : Fr h₀ L h1 m := ksk_fr Fh hs1 nJ.2.1 nJ.2.2
    have N1 : News h₀ L h1 ((S, listOf (vs.take i).toArray c) :: (J, oJ') :: (I, mapObj T f) :: (T, tupOf [.ref J]) :: news) := fun p hp => by
      rcases List.mem_cons.mp hp with rfl | hp
      · exact ⟨(hs1.2 S hSJ).trans nS.1, nS.2⟩
      · rcases List.mem_cons.mp hp with rfl | hp
        · exact ⟨eJ', nJ.2⟩
        · rcases List.mem_cons.mp hp with rfl | hp
          · exact ⟨(hs1.2 I hIJ).trans nI.1, nI.2⟩
          · rcases List.mem_cons.mp hp with rfl | hp
            · exact ⟨(hs1.2 T hTJ).trans nT.1, nT.2⟩
            · exact ksk_news Nn hs1 hnJ p hp
    refine turn vs[i] h1 tk _ _ _ (List.getElem_mem hlt) F1 N1 fun h2 tk2 F2 N2 => ?_
    have mS := N2 _ (.head _)
    have mJ := N2 _ (.tail _ (.head _))
    have mI := N2 _ (.tail _ (.tail _ (.head _)))
    have mT := N2 _ (.tail _ (.tail _ (.tail _ (.head _))))
    have Mn : News h₀ L h2 news := fun p hp => N2 p (.tail _ (.tail _ (.tail _ (.tail _ hp))))
    show wpAny _ A.in1 (updateSeq S (·.push vs[i]) >>= _) _ _ _
    refine wpAny_bind ?_
    have s3 := Heap.SameBut.update h2 S (Obj.mapSeq (·.push vs[i]))
    obtain ⟨c3, hc3⟩ : ∃ c3, (h2.update S (Obj.mapSeq (·.push vs[i]))).get? S = some (listOf (vs.take (i + 1)).toArray c3) := by
      rw [List.take_succ_eq_append_getElem hlt, ← List.push_toArray]
      exact ⟨_, get?_update_seq mS.1 (·.push vs[i])⟩
    have hle : (vs.take i).toArray.size = i := by rw [List.size_toArray, List.length_take]; lia
    refine wpAny_updateSeq mS.1 rfl (wpAny_pure ⟨plainId_quiet F.plain_extend_loop _, ih (i + 1) _ _ c3 oJ' (by lia) hlt ⟨oJ', (s3.2 J (Ne.symm hSJ)).trans mJ.1, rJ'⟩ (ksk_fr F2 s3 mS.2.1 mS.2.2) ?_⟩) (by rw [hle]; lia) (by show ((vs.take i).toArray.push vs[i]).size ≤ sizeLine + 1; rw [Array.size_push, hle]; lia)
    intro p hp
    rcases List.mem_cons.mp hp with e | hp
    · rw [e]; exact ⟨hc3, mS.2⟩
    · rcases List.mem_cons.mp hp with e | hp
      · rw [e]; exact ⟨(s3.2 J (Ne.symm hSJ)).trans mJ.1, mJ.2⟩
      · rcases List.mem_cons.mp hp with e | hp
        · rw [e]; exact ⟨(s3.2 I hIS).trans mI.1, mI.2⟩
        · rcases List.mem_cons.mp hp with e | hp
          · rw [e]; exact ⟨(s3.2 T hTS).trans mT.1, mT.2⟩
          · exact ksk_news Mn s3 hnS p hp
theorem map_collect {I T J : Addr} {n : Nat} {Q : List Value → Shared → Prop} (hh : A.handled = none) (hsz : vs.length ≤ sizeLine) (hm : (l, listOf vs.toArray n) ∈ news)
    (turn : MapTurn prog w A.in1.in1 h₀ L m f s vs) (hIJ : I ≠ J) (hTJ : T ≠ J) (hnJ : ∀ p ∈ news, p.1 ≠ J) (Fh : Fr h₀ L s.heap m) (N : News h₀ L s.heap ((I, mapObj T f) :: (T, tupOf [.ref J]) :: (J, liObj l 0) :: news))
    (hQ : ∀ h' tk', Fr h₀ L h' m → News h₀ L h' news → Q vs { s with heap := h', toks := tk' }) : wpAny (model prog w) A (collect (.ref I)) Q E s := by
  have fresh : ∀ p ∈ (I, mapObj T f) :: (T, tupOf [.ref J]) :: (J, liObj l 0) :: news, p.1 ≠ s.heap.objs.size := fun p hp => Nat.ne_of_lt (Heap.lt_size (N p hp).1)
  have hSI : s.heap.objs.size ≠ I := Ne.symm (fresh _ (.head _))
  have hST : s.heap.objs.size ≠ T := Ne.symm (fresh _ (.tail _ (.head _)))
  have hSJ : s.heap.objs.size ≠ J := Ne.symm (fresh _ (.tail _ (.tail _ (.head _))))
  have hnS : ∀ p ∈ news, p.1 ≠ s.heap.objs.size := fun p hp => fresh p (.tail _ (.tail _ (.tail _ hp)))
  have nI := N _ (.head _)
  unfold collect
  refine wpAny_bind (wpAny_runValue (codeAny_builtin F.entry_proto_collect ?_))
  rw [Around.under_plainId F.plain_proto_collect _]
  show wpAny _ A.in1 (newList [] >>= fun l => again (.builtin "list.__iadd__" ⟨[l, .ref I], []⟩)) _ _ s
  refine wpAny_bind (wpAny_newObj_type ?_)
  refine wpAny_pure ⟨plainId_quiet F.plain_list_iadd _, codeAny_builtin F.entry_list_iadd ?_⟩
  rw [Around.under_plainId F.plain_list_iadd _]
  have F1 := Fh.push (o := { cls := .type "list", data := .seq ([] : List Value).toArray })
  have N1 := News.push Fh N { cls := .type "list", data := .seq ([] : List Value).toArray } rfl
  generalize hH : s.heap.push { cls := .type "list", data := .seq ([] : List Value).toArray } = H1 at F1 N1 ⊢
  have nS1 := N1 _ (.head _)
  have nI1 := N1 _ (.tail _ (.head _))
  have hT : ({ s with heap := H1 } : Shared).TypeIs (.ref I) "map" := ⟨_, nI1.1, rfl⟩
  show wpAny _ A.in1 (Builtin.List.listExtendWith (.ref s.heap.objs.size) (.ref I) (.ref s.heap.objs.size)) _ _ _
  unfold Builtin.List.listExtendWith
  refine wpAny_bind (wpAny_typeOf hT ?_)
  have h1 : Builtin.List.listSameRef (.ref s.heap.objs.size) (.ref I) = false := by simp [Builtin.List.listSameRef, hSI]
  have h2 : (Value.type "map" == Value.type "list") = false := by decide
  have h3 : (Value.type "map" == Value.type "tuple") = false := by decide
  simp only [h1, h2, h3, Bool.or_false, Bool.false_eq_true, if_false]
  refine wpAny_bind (wpAny_pyIter_slot hT F.slot_map_iter (wpAny_call_entry F.slot_map_iter hT F.entry_map_iter ?_ (F.args_map_iter _)))
  show wpAny _ _ (ret (.ref I)) _ _ _
  refine wpAny_pure ⟨_, rfl, "map", _, hT, F.slot_map_next.lookup, ?_⟩
  refine wpAny_bind (wpAny_holding ?_)
  unfold Builtin.List.listLengthHint
  refine wpAny_bind (wpAny_specialOf hT F.map_no_len ?_)
  show wpAny _ A.in1 (specialOf (Value.ref I) (Str.ofString "__length_hint__") >>= _) _ _ _
  refine wpAny_bind (wpAny_specialOf hT F.map_no_hint ?_)
  refine wpAny_pure ?_
  show wpAny _ A.in1 (rule "list.extend.makes-room" >>= fun _ => Builtin.List.listTouch (.ref s.heap.objs.size) >>= fun _ =>
    again (.builtin "list.extend.loop" ⟨[.ref s.heap.objs.size, .ref I, .ref s.heap.objs.size], []⟩)) _ _ _
  refine wpAny_bind (wpAny_rule ?_)
  refine wpAny_bind ?_
  show wpAny _ A.in1 (updateSeq s.heap.objs.size (·.push .none) >>= fun _ => updateSeq s.heap.objs.size (·.pop)) _ _ _
  refine wpAny_bind (wpAny_updateSeq nS1.1 rfl ?_)
  have s2 := Heap.SameBut.update H1 s.heap.objs.size (Obj.mapSeq (·.push Value.none))
  obtain ⟨c2, e2⟩ : ∃ c2, (H1.update s.heap.objs.size (Obj.mapSeq (·.push Value.none))).get? s.heap.objs.size = some (seqObj "list" #[Value.none] c2) := ⟨_, get?_update_seq nS1.1 (·.push Value.none)⟩
  generalize H1.update s.heap.objs.size (Obj.mapSeq (·.push Value.none)) = H2 at s2 e2 ⊢
  refine wpAny_updateSeq e2 rfl ?_
  have s3 := Heap.SameBut.update H2 s.heap.objs.size (Obj.mapSeq (·.pop))
  obtain ⟨c3, e3⟩ : ∃ c3, (H2.update s.heap.objs.size (Obj.mapSeq (·.pop))).get? s.heap.objs.size = some (seqObj "list" #[] c3) := ⟨_, get?_update_seq e2 (·.pop)⟩
  generalize H2.update s.heap.objs.size (Obj.mapSeq (·.pop)) = H3 at s3 e3 ⊢
  have F3 : Fr h₀ L H3 m := ksk_fr (ksk_fr F1 s2 nS1.2.1 nS1.2.2) s3 nS1.2.1 nS1.2.2
  have N3 : News h₀ L H3 ((I, mapObj T f) :: (T, tupOf [.ref J]) :: (J, liObj l 0) :: news) := ksk_news (ksk_news (fun p hp => N1 p (.tail _ hp)) s2 fresh) s3 fresh
  refine wpAny_pure ⟨plainId_quiet F.plain_extend_loop _, map_extend (s := s) (n := n) hh hsz hm turn hIJ hTJ hSJ (Ne.symm hSI) (Ne.symm hST) hnJ hnS ?_ _ 0 _ s.toks c3 (liObj l 0) rfl (Nat.zero_le _) (li_is (N3 _ (.tail _ (.tail _ (.head _)))).1) F3 ?_⟩
  · intro h' tk' c' F4 N4
    show wpAny _ A (load s.heap.objs.size >>= _) _ _ _
    refine wpAny_bind (wpAny_load (N4 _ (.head _)).1 ?_)
    refine wpAny_pure ?_
    have e : vs.toArray.toList = vs := by simp
    rw [e]
    exact hQ h' tk' F4 fun p hp => N4 p (.tail _ hp)
  · intro p hp
    rcases List.mem_cons.mp hp with e | hp
    · rw [e]; exact ⟨e3, nS1.2⟩
    · rcases List.mem_cons.mp hp with e | hp
      · rw [e]; exact N3 _ (.tail _ (.tail _ (.head _)))
      · rcases List.mem_cons.mp hp with e | hp
        · rw [e]; exact N3 _ (.head _)
        · rcases List.mem_cons.mp hp with e | hp
          · rw [e]; exact N3 _ (.tail _ (.head _))
          · exact N3 _ (.tail _ (.tail _ (.tail _ hp)))
theorem tuple_map {I T J : Addr} {n : Nat} {Q : Value → Shared → Prop} (hh : A.handled = none) (hsz : vs.length ≤ sizeLine) (hm : (l, listOf vs.toArray n) ∈ news)
    (turn : MapTurn prog w A.in1.in1.in1.in1 h₀ L m f s vs) (hIJ : I ≠ J) (hTJ : T ≠ J) (hnJ : ∀ p ∈ news, p.1 ≠ J) (Fh : Fr h₀ L s.heap m) (N : News h₀ L s.heap ((I, mapObj T f) :: (T, tupOf [.ref J]) :: (J, liObj l 0) :: news))
    (hQ : ∀ D h' tk', Fr h₀ L h' m → News h₀ L h' ((D, tupOf vs) :: news) → (∀ p ∈ news, p.1 < D) → Q (.ref D) { s with heap := h', toks := tk' }) :
    wpAny (model prog w) A (call (.type "tuple") [.ref I]) Q E s := by
  have nI := N _ (.head _)
  refine callType_codes (Q₁ := fun obj s₁ => s₁.TypeIs obj "tuple" ∧ Q obj s₁) F.called_tuple (F.typeCall_tuple_1 _) F.entry_object_init ?_ fun obj s₁ h₁ => ?_
  · refine codeAny_of_tree ?_
    show wpAny _ A.in1.in1 (do checkBuiltinCall "tuple.__new__" ⟨[.type "tuple", .ref I], []⟩; again (.builtin "tuple.__new__" ⟨[.type "tuple", .ref I], []⟩)) _ _ s
    refine wpAny_bind (wpAny_of_eq (F.newCall_tuple_1 _) (wpAny_pure ⟨plainId_quiet F.plain_tuple_new _, codeAny_builtin F.entry_tuple_new ?_⟩))
    rw [Around.under_plainId F.plain_tuple_new _]
    have hsub := sub_tuple_self
    have hinit := init_tuple_lookup
    have hmh := madeHere_tuple
    have hTI : s.TypeIs (.ref I) "map" := ⟨_, nI.1, rfl⟩
    have hcol : ∀ (Q' : List Value → Shared → Prop) (E' : Value → Shared → Prop), (∀ h' tk', Fr h₀ L h' m → News h₀ L h' news → Q' vs { s with heap := h', toks := tk' }) → wpAny (model prog w) A.in1.in1 (collect (.ref I)) Q' E' s := fun Q' E' h => map_collect (n := n) hh hsz hm turn hIJ hTJ hnJ Fh N h
    wp_walk using wpAny_typeOf hTI, hcol _ _
    intro h' tk' F' N'
    show wpAny _ _ (Builtin.Tuple.tupleExact vs.toArray >>= fun v => ret v) _ _ _
    unfold Builtin.Tuple.tupleExact
    refine wpAny_bind (wpAny_newObj_type ?_ (by show vs.toArray.size ≤ sizeLine; rw [List.size_toArray]; exact hsz))
    refine wpAny_pure ?_
    exact ⟨⟨_, Heap.get?_push_size _ rfl, rfl⟩, hQ _ _ tk' (F'.push _) (News.push F' N' _ rfl) fun p hp => Heap.lt_size (N' p hp).1⟩
  · exact ⟨h₁.1, F.args_object_init_2 obj _, object_init_meets F.called_tuple.init.lookup F.called_tuple.made (by decide) prog w A.in1 _ s₁ ⟨h₁.1, rfl, h₁.2⟩⟩
end
end
section
namespace F
theorem entry_set_iter : entryFor table "set.__iter__" = some Builtin.«frozenset.__iter__» :=
  entryFor_alias (id' := "frozenset.__iter__") (by rw [fastTable_eq_tree]; kernel_rfl) rfl (by decide +kernel) (by rw [fastTable_eq_tree]; kernel_rfl)
end F
section
variable {prog : Program} {w : World} {A : Around} {E : Value → Shared → Prop} {s : Shared}
noncomputable def oneT (led : Bool) : SetTable := { mask := 7, place := #[1], dummies := #[], finger := 0, led := led, moves := 0, plain := true }
noncomputable abbrev setObj0 (led : Bool) : Obj := { cls := .type "set", dict := none, data := .set #[] 0 (.fresh 0 0 led) }
noncomputable abbrev setObj1 (led : Bool) : Obj := { cls := .type "set", dict := none, data := .set #[(1, .bool true)] 1 (oneT led) }
theorem lay_one (led : Bool) : layNew (.fresh 0 0 led) #[] 1 (.bool true) = (#[(1, .bool true)], oneT led, false, false) := by cases led <;> rfl
theorem pyHash_true {Q : Int → Shared → Prop} (h : Q 1 { s with toks := s.toks + 1 }) : wpAny (model prog w) A (pyHash (.bool true)) Q E s := by
  have hT : s.TypeIs (.bool true) "bool" := rfl
  unfold pyHash
  have hv : [Value.bool true].any Value.onHeap = false := rfl
  refine wpAny_bind ?_
  rw [cRoomFor, if_neg (by rw [hv]; exact Bool.false_ne_true)]; refine wpAny_pure ?_
  refine wpAny_bind (wpAny_specialOf hT F.slot_bool_hash.lookup ?_)
  show wpAny _ _ (if (some (Value.builtin "int.__hash__") == some Value.none) = true then _ else _) Q E s
  rw [if_neg (by rw [beq_builtin_none]; exact Bool.false_ne_true)]
  refine wpAny_bind (wpAny_specialOf hT F.slot_bool_hash.lookup ?_)
  show wpAny _ _ (callSpecialIfBoundUnlessNone? (.bool true) "__hash__" _ >>= _) Q E s
  refine wpAny_bind (wpAny_callSpecialIfBoundUnlessNone?_slot hT F.slot_bool_hash
    (wpAny_call_entry F.slot_bool_hash hT entry_int_hash
      (show wpAny _ _ (do ret (← mkInt (rawHash 1))) _ _ s from wpAny_ret_mkInt ?_) (args_int_hash _)))
  show wpAny _ _ (if (decide (-(2 : Int) ^ 63 ≤ rawHash 1) && decide (rawHash 1 < 2 ^ 63)) = true then _ else _) Q E _
  rw [if_pos (by decide)]
  exact wpAny_pure h
theorem set_add_first {a : Addr} {led : Bool} {Q : Value → Shared → Prop} (ho : s.heap.get? a = some (setObj0 led))
    (h : ∀ h', Heap.SameBut a s.heap h' → h'.get? a = some (setObj1 led) → Q .none { s with heap := h', toks := s.toks + 1 }) :
    wpAny (model prog w) A (call (.builtin "set.add") [.ref a, .bool true]) Q E s := by
  have hT : s.TypeIs (.ref a) "set" := ⟨_, ho, rfl⟩
  refine wpAny_call_entry F.slot_set_add hT F.entry_set_add ?_ (F.args_set_add_2 _ _)
  unfold Builtin.«set.add» Builtin.Frozenset.oneOther
  simp only [List.isEmpty_nil, bind_assoc]
  unfold Builtin.Frozenset.addrOf setAdd
  refine wpAny_bind (wpAny_pure ?_)
  try dsimp only
  refine wpAny_bind (wpAny_pure ?_)
  try dsimp only
  refine wpAny_bind ?_
  refine wpAny_holding ?_
  refine wpAny_bind (pyHash_true ?_)
  unfold setAddHashed setAddHashedIn
  refine wpAny_holding (wpAny_bind (wpAny_setState_of ho rfl (by cases led <;> rfl) ?_))
  dsimp only
  rw [show byScan (.bool true) #[] = true from by simp [byScan, Value.scannable, scanBound]]
  simp only [↓reduceIte]
  unfold setAddByScan
  refine wpAny_bind ?_
  refine wpAny_bind (wpAny_rule ?_)
  refine wpAny_bind ?_
  show wpAny _ _ (pure ScanMet.absent) _ _ _
  refine wpAny_pure ?_
  dsimp only
  rw [lay_one]
  dsimp only
  refine wpAny_bind ?_
  refine wpAny_pure (a := ()) ?_
  rw [if_pos (show (oneT led).plain = true from rfl)]
  refine wpAny_bind (wpAny_of_eq (hashByValue_scannable 8 (x := .bool true) rfl) ?_)
  have hb : plainKind (.bool true) = true := rfl
  simp only [hb, if_true]
  refine wpAny_bind (wpAny_storeSet_of ho rfl ?_ (by decide))
  rw [if_neg (show ¬ (!false && (oneT led).tooFull) = true from by cases led <;> decide)]
  refine wpAny_pure (wpAny_pure ?_)
  show wpAny _ _ (ret Value.none) _ _ _
  refine wpAny_pure ⟨_, rfl, h _ (Heap.SameBut.update _ _ _) ?_⟩
  have := Heap.get?_update_self (Obj.putSet #[(1, .bool true)] (oneT led)) ho (by rw [putSet_of #[(1, .bool true)] (oneT led) rfl]; rfl)
  rw [putSet_of #[(1, .bool true)] (oneT led) rfl] at this
  exact this
theorem set_add_again {a : Addr} {led : Bool} {Q : Value → Shared → Prop} (ho : s.heap.get? a = some (setObj1 led)) (h : Q .none { s with toks := s.toks + 1 }) :
    wpAny (model prog w) A (call (.builtin "set.add") [.ref a, .bool true]) Q E s := by
  have hT : s.TypeIs (.ref a) "set" := ⟨_, ho, rfl⟩
  have hf : (oneT led).fits #[((1 : Int), Value.bool true)].size = true := by cases led <;> decide
  refine wpAny_call_entry F.slot_set_add hT F.entry_set_add ?_ (F.args_set_add_2 _ _)
  unfold Builtin.«set.add» Builtin.Frozenset.oneOther
  simp only [List.isEmpty_nil, bind_assoc]
  unfold Builtin.Frozenset.addrOf setAdd
  refine wpAny_bind (wpAny_pure ?_)
  try dsimp only
  refine wpAny_bind (wpAny_pure ?_)
  try dsimp only
  refine wpAny_bind ?_
  refine wpAny_holding ?_
  refine wpAny_bind (pyHash_true ?_)
  unfold setAddHashed setAddHashedIn
  refine wpAny_holding (wpAny_bind (wpAny_setState_of ho rfl hf ?_))
  dsimp only
  rw [show byScan (.bool true) #[(1, .bool true)] = true from by simp [byScan, Value.scannable, scanBound]]
  simp only [↓reduceIte]
  unfold setAddByScan
  refine wpAny_bind ?_
  refine wpAny_bind (wpAny_rule ?_)
  refine wpAny_bind ?_
  show wpAny _ _ (setScanFrom a (.bool true) 1 true [(1, .bool true)] 0) _ _ _
  unfold setScanFrom
  rw [if_pos (by decide)]
  refine wpAny_bind (wpAny_setEpoch_of (s := { s with toks := s.toks + 1 }) ho rfl hf ?_)
  refine wpAny_bind (SeqAt.EqAt.same (.bool true) _ _ _ _ ?_)
  simp only [Bool.and_self, if_true]
  refine wpAny_pure (wpAny_pure ?_)
  refine wpAny_pure ?_
  show wpAny _ _ (ret Value.none) _ _ _
  exact wpAny_pure ⟨_, rfl, h⟩
theorem pick_one {α : Type} (nx : Nat → Nat) (x : α) : pickOrder nx #[x] = #[x] := by
  simp [pickOrder, pickOrder.go, Nat.mod_one]
theorem fits_one (led : Bool) : (oneT led).fits #[((1 : Int), Value.bool true)].size = true := by cases led <;> decide
theorem walk_text {a : Addr} {led : Bool} {Q : Array (Int × Value) → Shared → Prop} (ho : s.heap.get? a = some (setObj1 led)) (ht : w.params.followText "set-order" = true) (h : Q #[(1, .bool true)] s) : wpAny (model prog w) A (setWalk a) Q E s := by
  unfold setWalk setsByText
  refine wpAny_bind (wpAny_setState_of ho rfl (fits_one led) ?_)
  dsimp only
  refine wpAny_bind (wpAny_bind (wpAny_askSetting (wpAny_pure ?_)))
  dsimp only
  rw [if_pos (show (model prog w).w.params.followText "set-order" = true from ht)]
  refine wpAny_bind (wpAny_askSetting (wpAny_pure ?_))
  rw [pick_one]
  exact h
theorem setNext_first {a : Addr} {led : Bool} {Q : Option (Value × Nat) → Shared → Prop} (ho : s.heap.get? a = some (setObj1 led)) (hled : led = true ∨ w.params.followText "set-order" = true)
    (h : ∀ k, (k = 0 ∧ w.params.followText "set-order" = true) ∨ (k = 2 ∧ w.params.followText "set-order" = false) → Q (some (.bool true, k)) s) : wpAny (model prog w) A (setNext a 0 0 1) Q E s := by
  unfold setNext setsByText
  refine wpAny_bind (wpAny_setState_of ho rfl (fits_one led) ?_)
  dsimp only
  refine wpAny_bind (wpAny_bind (wpAny_askSetting (wpAny_pure ?_)))
  cases ht : w.params.followText "set-order" with
  | true =>
    rw [if_pos (show (model prog w).w.params.followText "set-order" = true from ht)]
    simp only [bne_self_eq_false, Bool.false_eq_true, if_false]
    refine wpAny_bind (walk_text ho ht (wpAny_pure ?_))
    exact h 0 (.inl ⟨rfl, ht⟩)
  | false =>
    dsimp only
    rw [if_neg (show ¬ (model prog w).w.params.followText "set-order" = true from by rw [show (model prog w).w.params.followText "set-order" = false from ht]; decide)]
    have hl : led = true := by rcases hled with h | h; exact h; rw [ht] at h; cases h
    subst hl
    refine wpAny_bind ?_
    refine wpAny_pure (a := ()) ?_
    refine wpAny_pure ?_
    exact h 2 (.inr ⟨rfl, ht⟩)
theorem setNext_second {a : Addr} {led : Bool} {k : Nat} {Q : Option (Value × Nat) → Shared → Prop} (ho : s.heap.get? a = some (setObj1 led)) (hled : led = true ∨ w.params.followText "set-order" = true)
    (hk : (k = 0 ∧ w.params.followText "set-order" = true) ∨ (k = 2 ∧ w.params.followText "set-order" = false)) (h : Q none s) : wpAny (model prog w) A (setNext a k 1 1) Q E s := by
  unfold setNext setsByText
  refine wpAny_bind (wpAny_setState_of ho rfl (fits_one led) ?_)
  dsimp only
  refine wpAny_bind (wpAny_bind (wpAny_askSetting (wpAny_pure ?_)))
  rcases hk with ⟨rfl, ht⟩ | ⟨rfl, ht⟩
  · dsimp only
    rw [if_pos (show (model prog w).w.params.followText "set-order" = true from ht)]
    simp only [bne_self_eq_false, Bool.false_eq_true, if_false]
    exact wpAny_bind (walk_text ho ht (wpAny_pure h))
  · dsimp only
    rw [if_neg (show ¬ (model prog w).w.params.followText "set-order" = true from by rw [show (model prog w).w.params.followText "set-order" = false from ht]; decide)]
    have hl : led = true := by rcases hled with h | h; exact h; rw [ht] at h; cases h
    subst hl
    refine wpAny_bind ?_
    refine wpAny_pure (a := ()) ?_
    exact wpAny_pure h
noncomputable abbrev sitObj (x : Value) (i j : Nat) : Obj := { cls := .type "set_iterator", data := .fields #[rawInt i, rawInt j, x, rawInt 1, rawInt 1] }
theorem unpack_one {a : Addr} {led : Bool} {t : Value → Sem Unit} {Q : Unit → Shared → Prop} (hh : A.handled = none) (ho : s.heap.get? a = some (setObj1 led)) (hled : led = true ∨ w.params.followText "set-order" = true)
    (h : ∀ h' , (∀ b o, s.heap.get? b = some o → h'.get? b = some o) → wpAny (model prog w) A (t (.bool true)) Q E { s with heap := h' }) :
    wpAny (model prog w) A (unpack (.ref a) [(false, t)]) Q E s := by
  have hT : s.TypeIs (.ref a) "set" := ⟨_, ho, rfl⟩
  have hla : a < s.heap.objs.size := Heap.lt_size ho
  unfold unpack unpackItems
  refine wpAny_bind (wpAny_holding ?_)
  unfold notIterableAtAll
  refine wpAny_bind (wpAny_bind (wpAny_specialOf hT F.slot_set_iter.lookup ?_))
  refine wpAny_pure ?_
  simp only [Bool.false_eq_true, if_false]
  refine wpAny_bind (wpAny_holding (wpAny_pyIter_slot hT F.slot_set_iter (wpAny_call_entry F.slot_set_iter hT F.entry_set_iter ?_ (F.args_set_iter_1 _))))
  unfold Builtin.«frozenset.__iter__» Builtin.Frozenset.slot0 slotArgs
  simp only [List.isEmpty_nil, Bool.not_true, Bool.false_eq_true, ↓reduceIte, bind_assoc, List.length_nil, bne_self_eq_false]
  unfold Builtin.Frozenset.addrOf Builtin.Frozenset.sizeOf setDrawn setsByText
  refine wpAny_bind (wpAny_pure ?_)
  dsimp only
  refine wpAny_bind (wpAny_pure ?_)
  refine wpAny_bind (wpAny_bind (wpAny_setEntries_of ho rfl (fits_one led) (wpAny_pure ?_)))
  refine wpAny_bind (wpAny_bind (wpAny_setState_of ho rfl (fits_one led) ?_))
  dsimp only
  refine wpAny_bind (wpAny_bind (wpAny_askSetting (wpAny_pure ?_)))
  refine wpAny_pure ?_
  rw [if_neg (fun hq => absurd (Bool.and_eq_true_iff.mp hq).2 (by cases led <;> decide))]
  refine wpAny_bind (wpAny_pure ?_)
  refine wpAny_bind (wpAny_setEpoch_of ho rfl (fits_one led) ?_)
  refine wpAny_bind (wpAny_newObj_type ?_)
  have hI0 : (s.heap.push (sitObj (.ref a) 0 0)).get? s.heap.objs.size = some (sitObj (.ref a) 0 0) := Heap.get?_push_size _ rfl
  have hne : a ≠ s.heap.objs.size := Nat.ne_of_lt hla
  have ho0 : (s.heap.push (sitObj (.ref a) 0 0)).get? a = some (setObj1 led) := Heap.get?_push_of_some _ ho
  have kp0 : ∀ b o, s.heap.get? b = some o → (s.heap.push (sitObj (.ref a) 0 0)).get? b = some o := fun b o e => Heap.get?_push_of_some _ e
  have hbl : ∀ b o, s.heap.get? b = some o → b ≠ s.heap.objs.size := fun b o e => Nat.ne_of_lt (Heap.lt_size e)
  refine wpAny_pure ⟨_, rfl, "set_iterator", _, ⟨_, hI0, rfl⟩, F.slot_set_iterator_next.lookup, ?_⟩
  show wpAny (model prog w) A (holding [Value.ref s.heap.objs.size] (draw (.ref s.heap.objs.size) 1) >>= _) _ _ { s with heap := s.heap.push (sitObj (.ref a) 0 0) }
  generalize s.heap.push (sitObj (.ref a) 0 0) = H0 at hI0 ho0 kp0 ⊢
  generalize hI : s.heap.objs.size = I at hI0 hne hbl ⊢
  obtain ⟨hp, g, d, tk, os⟩ := s
  dsimp only at ho kp0 hbl ⊢
  have hTI : Shared.TypeIs ⟨H0, g, d, tk, os⟩ (.ref I) "set_iterator" := ⟨_, hI0, rfl⟩
  refine wpAny_bind (wpAny_holding ?_)
  unfold draw
  refine wpAny_bind ?_
  unfold pyNext
  refine wpAny_bind (wpAny_attempt (wpAny_callSpecial?_slot (name := Str.ofString "__next__") hTI F.slot_set_iterator_next
    (wpAny_call_entry F.slot_set_iterator_next hTI F.entry_set_iterator_next ?_ (F.args_set_iterator_next _))))
  show wpAny _ _ (fieldsOf (.ref I) >>= _) _ _ _
  refine wpAny_bind (wpAny_fieldsOf hI0 rfl ?_)
  show wpAny _ _ (setEntries a >>= _) _ _ _
  refine wpAny_bind (wpAny_setEntries_of ho0 rfl (fits_one led) ?_)
  rw [if_neg (by decide)]
  show wpAny _ _ (setNext a 0 0 1 >>= _) _ _ _
  refine wpAny_bind (setNext_first ho0 hled fun k hk => ?_)
  dsimp only
  refine wpAny_bind (wpAny_setField_rec hI0 (by simp) fun h1 e1 s1 => ?_)
  refine wpAny_bind (wpAny_setField_rec e1 (by simp) fun h2 e2 s2 => ?_)
  replace e2 : h2.get? I = some (sitObj (.ref a) k 1) := e2
  replace s1 : Heap.SameBut I H0 h1 := s1
  replace s2 : Heap.SameBut I h1 h2 := s2
  have ho2 : h2.get? a = some (setObj1 led) := (s2.2 a hne).trans ((s1.2 a hne).trans ho0)
  refine wpAny_pure ⟨_, rfl, wpAny_pure ?_⟩
  dsimp only
  refine wpAny_bind (wpAny_holding ?_)
  refine wpAny_pure ?_
  refine wpAny_pure ?_
  rw [if_neg (by simp)]
  have hTI2 : Shared.TypeIs ⟨h2, g, d, tk, os⟩ (.ref I) "set_iterator" := ⟨_, e2, rfl⟩
  refine wpAny_bind (wpAny_holding (wpAny_bind (wpAny_attempt (wpAny_callSpecial?_slot (name := Str.ofString "__next__") hTI2 F.slot_set_iterator_next
    (wpAny_call_entry F.slot_set_iterator_next hTI2 F.entry_set_iterator_next ?_ (F.args_set_iterator_next _))))))
  show wpAny _ _ (fieldsOf (.ref I) >>= _) _ _ ⟨h2, g, d, tk, os⟩
  refine wpAny_bind (wpAny_fieldsOf e2 rfl ?_)
  show wpAny _ _ (setEntries a >>= _) _ _ ⟨h2, g, d, tk, os⟩
  refine wpAny_bind (wpAny_setEntries_of ho2 rfl (fits_one led) ?_)
  rw [if_neg (by decide)]
  show wpAny _ _ (setNext a k 1 1 >>= _) _ _ ⟨h2, g, d, tk, os⟩
  refine wpAny_bind (setNext_second ho2 hled hk ?_)
  dsimp only
  refine wpAny_bind (wpAny_setField_rec e2 (by simp) fun h3 e3 s3 => ?_)
  replace s3 : Heap.SameBut I h2 h3 := s3
  show wpAny _ _ (newExc (.type "StopIteration") [] >>= _) _ _ _
  refine wpAny_bind ?_
  simp only [newExc, newTuple]
  refine wpAny_bind (wpAny_newObj_type ?_ (by size_fits))
  refine wpAny_bind (m := firstArgMember _ _) (wpAny_of_eq (a := Value.none) (by first | rfl | (simp only [firstArgMember]; rfl)) ?_)
  refine wpAny_newObj_type ?_ (by size_fits)
  simp only [raiseNew]
  refine wpAny_bind (wpAny_handled ?_)
  rw [show A.in1.handled = none from hh]
  refine wpAny_bind (wpAny_pure (wpAny_throw ?_))
  refine wpAny_bind (wpAny_isInstance (T := "StopIteration") (b := true) ⟨_, Heap.get?_push_size _ rfl, rfl⟩ isSubtype_stop ?_)
  refine wpAny_pure ?_
  simp only [Option.isSome_none, Bool.false_eq_true, if_false]
  refine wpAny_pure ?_
  show wpAny (model prog w) A (holding [] (t (.bool true)) >>= fun _ => pure ()) _ _ _
  refine wpAny_bind (wpAny_holding (wpAny_mono (h _ fun b o e => ?_) (fun _ _ q => wpAny_pure q) fun _ _ e => e))
  refine Heap.get?_push_of_some _ (Heap.get?_push_of_some _ ?_)
  exact (s3.2 b (hbl b o e)).trans ((s2.2 b (hbl b o e)).trans ((s1.2 b (hbl b o e)).trans (kp0 b o e)))
end
end
section
section
open PyProof.Rows PyProof.Rows.LCg
variable {prog : Program} {w : World} {A : Around} {E : Value → Shared → Prop} {s : Shared} {h₀ : Heap} {L : Addr} {m : Str → Option Value} {env : Env}
theorem truthT0 {a : Addr} {vs : List Value} {news : List (Addr × Obj)} {Q : Bool → Shared → Prop} (N : News h₀ L s.heap news) (hm : (a, tupOf vs) ∈ news) (h0 : 0 < vs.length) (h1 : vs.length ≤ 1000) (h : Q true { s with toks := s.toks + 1 + 1 }) : wpAny (model prog w) A (truthy (.ref a)) Q E s := by
  refine truthy_tuple (items := vs.toArray) ⟨_, (N _ hm).1, rfl, 0, rfl⟩ (by rw [List.size_toArray]; lia) ?_
  have e : (!vs.toArray.isEmpty) = true := by cases vs with | nil => cases h0 | cons a r => rfl
  rw [e]; exact h
theorem item_tup0 {value slice : PySem.Expr} {a : Addr} {news : List (Addr × Obj)} {l : List Value} {u : Tok} {v : Value} {Q : Value → Shared → Prop} (N : News h₀ L s.heap news) (hm : (a, tupOf l) ∈ news) (hx : l[0]? = some v) (h : Q v s)
    (hs : subscripted slice false (.ref a) (.int 0 u) = operate [.ref a, .int 0 u] (getItem (.ref a) (.int 0 u)) := by with_unfolding_all rfl) :
    wpAny (model prog w) A (subscriptTail value slice (.ref a) (.int 0 u)) Q E s :=
  item_tupN N hm (by decide) (by decide) (by
    have hp : 0 < l.length := (List.getElem?_eq_some_iff.mp hx).1
    unfold seqIndex?
    simp [hp]) hx h hs
noncomputable def TEnd (h₀ : Heap) (L : Addr) (m : Str → Option Value) (s₁ : Shared) (I : Addr) (oI : Obj) (C : Addr) (oC : Obj) (D : Addr) (oD : Obj) (K : List (Addr × Obj) → Prop) (s₂ : Shared) : Prop :=
  ∃ h' tk news', s₂ = { s₁ with heap := h', toks := tk } ∧ Fr h₀ L h' m ∧ News h₀ L h' ((I, oI) :: (C, oC) :: (D, oD) :: news') ∧ Off3 I C D news' ∧ K news'
theorem tend {I C D : Addr} {s₁ : Shared} {oI oC oD : Obj} {K : List (Addr × Obj) → Prop} {h' : Heap} {tk : Nat} {all : List (Addr × Obj)}
    (F : Fr h₀ L h' m) (N : News h₀ L h' all) (news' : List (Addr × Obj)) (sub : ∀ p ∈ (I, oI) :: (C, oC) :: (D, oD) :: news', p ∈ all) (off : Off3 I C D news') (k : K news') :
    TEnd h₀ L m s₁ I oI C oC D oD K { s₁ with heap := h', toks := tk } := ⟨h', tk, news', rfl, F, fun p hp => N p (sub p hp), off, k⟩
noncomputable def TurnT (prog : Program) (w : World) (A : Around) (h₀ : Heap) (L : Addr) (m : Str → Option Value) (env : Env) (elt : PySem.Expr) (ifs : List PySem.Expr) (x : Str) (scope : Scope) (cl : List (Str × Addr)) (n : Nat) (P : Nat → Value → Prop) (J : Nat → List Value → List (Addr × Obj) → Prop) (s : Shared) : Prop :=
  ∀ i v ys nw I oI C oC D m₂ h tk (E' : Value → Shared → Prop), J i ys nw → i < n → P i v → NsObj oC m₂ → m₂ x = some v → Fr h₀ L h m → News h₀ L h ((I, oI) :: (C, oC) :: (D, lst ys) :: nw) → Off3 I C D nw → ((@Ne Nat I C) ∧ (@Ne Nat I D) ∧ (@Ne Nat C D)) →
    wpAny (model prog w) A (forIn ifs true fun c r => if r = true then do let ok ← isTrue c (compEnvC scope cl C env) (eval c (compEnvC scope cl C env)); pure (ForInStep.yield ok) else pure (ForInStep.yield r))
      (fun ok s₃ => if ok = true then wpAny (model prog w) A (eval elt (compEnvC scope cl C env)) (fun y s₄ => TEnd h₀ L m { s with heap := h, toks := tk } I oI C oC D (lst ys) (J (i + 1) (ys ++ [y])) s₄) E' s₃
        else TEnd h₀ L m { s with heap := h, toks := tk } I oI C oC D (lst ys) (J (i + 1) ys) s₃) E' { s with heap := h, toks := tk }
theorem blockI {elt iter : PySem.Expr} {ifs : List PySem.Expr} {x : Str} {px : Pos} {scope : Scope} {cl : List (Str × Addr)} {pos : Pos} {s₂ : Shared} {I : Addr} {fp : List Addr} {n : Nat} {P : Nat → Value → Prop} {St : Nat → Heap → Prop} {news : List (Addr × Obj)} {J : Nat → List Value → List (Addr × Obj) → Prop}
    {RR : Value → Addr → Result → Shared → Prop}
    (W : Walks prog w A I fp [I] n P St) (hsz : n ≤ sizeLine) (hIo : ∀ i h, St i h → ∃ o, h.get? I = some o)
    (hSt : ∀ i ys h h' o nw, St i h → h.get? I = some o → h'.get? I = some o → News h₀ L h' nw → J i ys nw → St i h')
    (hJl : ∀ i ys nw, J i ys nw → ys.length ≤ i)
    (hcell : ∀ y ∈ scope.names, y.2 ≠ .cell) (hkind : scope.kind = .function) (hx : scope.names.lookup x = some .local) (hst : St 0 s₂.heap) (hfp : ∀ b ∈ fp, b < s₂.heap.objs.size)
    (F : Fr h₀ L s₂.heap m) (N : News h₀ L s₂.heap news) (hIL : L ≠ I) (hI₀ : h₀.get? I = none) (off : ∀ p ∈ news, p.1 ≠ I) (h0 : J 0 [] news)
    (turn : TurnT prog w A h₀ L m env elt ifs x scope cl n P J s₂)
    (hRR : ∀ D C h tk m' ys news', Fr h₀ L h m → News h₀ L h ((D, lst ys) :: news') → (∀ p ∈ news', p.1 ≠ D) → h.Ns C m' → h₀.get? C = none → h₀.get? D = none → C ≠ L → D ≠ L → C ≠ D → (∀ p ∈ news', p.1 ≠ C) → J n ys news' → RR (.ref D) C (.ok .next) { s₂ with heap := h, toks := tk }) :
    wpAny (model prog w) A (newList []) (fun acc s₃ => wpAny (model prog w) A (newFunctionEnv scope env.globals cl [] env.qual none .none (some env)) (fun cenv s₄ =>
      codeAny (model prog w) A (.compStart (.ListComp elt [⟨.Name x px, iter, ifs, 0⟩] scope pos) 0 (.ref I) acc { cenv with scope := relabel scope env }) (RR acc cenv.locals) s₄) E s₃) E s₂ := by
  refine wpAny_newObj_type (wpAny_newFunctionEnv hcell (by intro y hy; simp at hy) (fun h₁ hns₁ hsb₁ => ?_) hkind)
  dsimp only at hns₁ hsb₁ ⊢
  generalize hH2 : s₂.heap.push { cls := .type "list", dict := none, data := .seq ([] : List Value).toArray } = H2 at hns₁ hsb₁ ⊢
  have hC : H2.objs.size = s₂.heap.objs.size + 1 := by rw [← hH2, Heap.size_push]
  generalize hDa : s₂.heap.objs.size = D at *
  generalize hCa : H2.objs.size = C at *
  have hDC : D ≠ C := by rw [hC]; exact Nat.ne_of_lt (Nat.lt_succ_self _)
  have below : ∀ b, b < D → b ≠ C ∧ b ≠ D := fun b hb => ⟨by rw [hC]; exact Nat.ne_of_lt (Nat.lt_succ_of_lt hb), Nat.ne_of_lt hb⟩
  have hCf : C ∉ fp := fun hm => by have := hfp _ hm; rw [hC] at this; exact Nat.lt_irrefl _ (Nat.lt_of_succ_lt this)
  have hDf : D ∉ fp := fun hm => Nat.lt_irrefl _ (hfp _ hm)
  have hIlt : I < D := hfp I (W.sub I (List.mem_singleton.mpr rfl))
  have hLlt : L < D := hDa ▸ F.ns.lt
  have old : ∀ b o, s₂.heap.get? b = some o → h₁.get? b = some o := fun b o e => hsb₁.extBut b o (below b (hDa ▸ Heap.lt_size e)).1 (Heap.get?_push_of_some _ (by rw [← hH2]; exact Heap.get?_push_of_some _ e))
  have hacc : h₁.get? D = some (lst []) := hsb₁.extBut _ _ hDC (Heap.get?_push_of_some _ (by rw [← hH2, ← hDa]; exact Heap.get?_push_size _ rfl))
  have hst₁ : St 0 h₁ := W.frame _ _ _ hst fun b _ o e => old b o e
  have fresh₀ : ∀ a, D ≤ a → h₀.get? a = none := fun a ha => Heap.get?_none_of_le (Nat.le_trans F.above (Nat.le_trans (Nat.le_of_lt hLlt) ha))
  have hD₀ : h₀.get? D = none := fresh₀ _ (Nat.le_refl _)
  have hC₀ : h₀.get? C = none := fresh₀ _ (by rw [hC]; exact Nat.le_succ _)
  have hDL : D ≠ L := Ne.symm (below L hLlt).2
  have hCL : C ≠ L := Ne.symm (below L hLlt).1
  have hIC : I ≠ C := (below I hIlt).1
  have hID : I ≠ D := (below I hIlt).2
  have off₀ : Off3 I C D news := Off3.of fun p hp => ⟨off p hp, (below _ (hDa ▸ Heap.lt_size (N p hp).1)).1, (below _ (hDa ▸ Heap.lt_size (N p hp).1)).2⟩
  have loop : ∀ s₃ : Shared, s₃ = { s₂ with heap := h₁, toks := s₂.toks + ([] : List (Str × Value)).length } →
      codeAny (model prog w) A (.compLoop (.ListComp elt [⟨.Name x px, iter, ifs, 0⟩] scope pos) 0 (.ref I) (.ref D) (compEnvC scope cl C env)) (RR (.ref D) C) s₃ := by
    rintro s₃ rfl
    refine codeAny_compLoop_tests
      (fun k s' => ∃ h' tk i ys m' news', s' = { s₂ with heap := h', toks := tk } ∧ i ≤ n ∧ k = n + 1 - i ∧ St i h' ∧ Fr h₀ L h' m ∧ h'.Ns C m' ∧ News h₀ L h' ((D, lst ys) :: news') ∧ Off3 I C D news' ∧ J i ys news') ?_ (n + 1)
      ⟨h₁, _, 0, [], _, news, rfl, Nat.zero_le _, rfl, hst₁, F.keeps old, hns₁, fun p hp => ?_, off₀, h0⟩
    · intro k s' hI9
      refine gg fun gl hgl => ?_
      obtain ⟨h', tk, i, ys, m', news', rfl, hi, rfl, hst', F', hn', N', off', hJ⟩ := hI9
      refine hgl ?_
      clear hgl
      by_cases hlt : i < n
      · refine W.item i _ _ _ hlt hst' fun v h₂ tk₂ hPv hst₂ hk₂ => ?_
        refine wpAny_assign_Name (wpAny_storeName_local (lookup_relabel_local hx) (hn'.at' fun o e => hk₂ _ o (by simpa using Ne.symm hIC) e) (fun h₃ hn₃ hs₃ => ?_) (by simp [compEnvC, relabel, hkind]))
        have hst₃ : St (i + 1) h₃ := W.frame _ _ _ hst₂ fun b hb o e => hs₃.extBut b o (fun q => hCf (by have q' : b = C := q; rw [← q']; exact hb)) e
        obtain ⟨oI, heI⟩ := hIo _ _ hst₃
        obtain ⟨oC, heC, hoC⟩ := ns_obj hn₃
        have off3 := off'.mem
        have F₃ : Fr h₀ L h₃ m := (fr_but F' hk₂ hIL hI₀).change hs₃ hCL hC₀
        have N₃ : News h₀ L h₃ ((I, oI) :: (C, oC) :: (D, lst ys) :: news') := fun p hp => by
          rcases List.mem_cons.mp hp with e | hp
          · rw [e]; exact ⟨heI, Ne.symm hIL, hI₀⟩
          · rcases List.mem_cons.mp hp with e | hp
            · rw [e]; exact ⟨heC, hCL, hC₀⟩
            · have pI : p.1 ≠ I ∧ p.1 ≠ C := by
                rcases List.mem_cons.mp hp with e | hp
                · rw [e]; exact ⟨Ne.symm hID, hDC⟩
                · exact ⟨(off3 p hp).1, (off3 p hp).2.1⟩
              exact ⟨hs₃.extBut _ _ pI.2 (hk₂ _ _ (by simpa using pI.1) (N' p hp).1), (N' p hp).2⟩
        refine wpAny_mono (turn i v ys news' I oI C oC D _ h₃ _ _ hJ hlt hPv hoC (by simp) F₃ N₃ off' ⟨hIC, hID, Ne.symm hDC⟩) (fun ok s₄ h₄ => ?_) fun _ _ e => e
        have fin : ∀ (ys' : List Value) (oD : Obj) (nw4 : List (Addr × Obj)) (h5 : Heap) (tk5 : Nat), Fr h₀ L h5 m → News h₀ L h5 ((I, oI) :: (C, oC) :: (D, lst ys') :: nw4) → Off3 I C D nw4 → J (i + 1) ys' nw4 →
            ∃ m1, m1 < n + 1 - i ∧ ∃ h' tk i ys m' news', ({ s₂ with heap := h5, toks := tk5 } : Shared) = { s₂ with heap := h', toks := tk } ∧ i ≤ n ∧ m1 = n + 1 - i ∧ St i h' ∧ Fr h₀ L h' m ∧ h'.Ns C m' ∧ News h₀ L h' ((D, lst ys) :: news') ∧ Off3 I C D news' ∧ J i ys news' := fun ys' oD nw4 h5 tk5 F5 N5 o5 J5 => by
          have zI := (N5 (I, oI) (.head _)).1
          have zC := (N5 (C, oC) (.tail _ (.head _))).1
          exact ⟨n + 1 - (i + 1), by lia, h5, tk5, i + 1, ys', _, nw4, rfl, hlt, rfl, hSt _ _ _ _ _ _ hst₃ heI zI (fun p hp => N5 p (.tail _ (.tail _ (.tail _ hp)))) J5, F5, hoC.ns zC, fun p hp => N5 p (.tail _ (.tail _ hp)), o5, J5⟩
        cases ok with
        | false =>
          simp only [Bool.false_eq_true, if_false] at h₄ ⊢
          obtain ⟨h5, tk5, nw5, rfl, F5, N5, o5, J5⟩ := h₄
          exact fin ys (lst ys) nw5 h5 tk5 F5 N5 o5 J5
        | true =>
          simp only [if_true] at h₄ ⊢
          refine wpAny_mono h₄ (fun y s₅ h₅ => ?_) fun _ _ e => e
          obtain ⟨h5, tk5, nw5, rfl, F5, N5, o5, J5⟩ := h₅
          have hyl := hJl _ _ _ hJ
          have zD := (N5 (D, lst ys) (.tail _ (.tail _ (.head _)))).1
          refine append_at (hsz := by show ys.toArray.size ≤ sizeLine; rw [List.size_toArray]; lia) zD fun h6 hs6 hD6 => ?_
          have o5m := o5.mem
          refine fin (ys ++ [y]) (lst ys) nw5 h6 tk5 (F5.change hs6 hDL hD₀) (fun p hp => ?_) o5 J5
          rcases List.mem_cons.mp hp with e | hp
          · rw [e]; exact ⟨hs6.extBut _ _ hID (N5 _ (.head _)).1, (N5 _ (.head _)).2⟩
          · rcases List.mem_cons.mp hp with e | hp
            · rw [e]; exact ⟨hs6.extBut _ _ (Ne.symm hDC) (N5 _ (.tail _ (.head _))).1, (N5 _ (.tail _ (.head _))).2⟩
            · rcases List.mem_cons.mp hp with e | hp
              · rw [e]; exact ⟨hD6.trans (congrArg some (lst_snoc ys y)), hDL, hD₀⟩
              · exact ⟨hs6.extBut _ _ (o5m p hp).2.2 (N5 p (.tail _ (.tail _ (.tail _ hp)))).1, (N5 p (.tail _ (.tail _ (.tail _ hp)))).2⟩
      · obtain rfl : i = n := Nat.le_antisymm hi (Nat.not_lt.mp hlt)
        refine W.done _ _ _ hst' fun h₂ tk₂ hk₂ => ?_
        have off3 := off'.mem
        refine hRR _ _ h₂ tk₂ _ ys news' (fr_but F' hk₂ hIL hI₀) (news_but N' hk₂ fun p hp => ?_) (fun p hp => (off3 p hp).2.2) (hn'.at' fun o e => hk₂ _ o (by simpa using Ne.symm hIC) e) hC₀ hD₀ hCL hDL (Ne.symm hDC) (fun p hp => (off3 p hp).2.1) hJ
        rcases List.mem_cons.mp hp with e | hp
        · rw [e]; exact Ne.symm hID
        · exact (off3 p hp).1
    · rcases List.mem_cons.mp hp with e | hp
      · rw [e]; exact ⟨hacc, hDL, hD₀⟩
      · exact ⟨old _ _ (N p hp).1, (N p hp).2⟩
  exact codeAny_compStart_list (loop _ rfl) (W.self 0 _ _ _ hst₁ (loop _ rfl))
end
end
section
section
open PyProof.Rows PyProof.Rows.LCg
variable {prog : Program} {w : World} {A : Around} {E : Value → Shared → Prop} {s : Shared} {h₀ : Heap} {L : Addr} {m : Str → Option Value} {env : Env}
noncomputable def SeqObj (o : Obj) (vs : List Value) : Prop := (o.cls = .type "list" ∨ o.cls = .type "tuple") ∧ ∃ n, o.data = .seq vs.toArray n
noncomputable def SrcK (prog : Program) (w : World) (A : Around) (h₀ : Heap) (L : Addr) (m : Str → Option Value) (env : Env) (elt : PySem.Expr) (ifs : List PySem.Expr) (x : Str) (scope : Scope) (cl : List (Str × Addr)) (Fin : Shared → List Value → List (Addr × Obj) → Prop) (xv : Value) (s₁ : Shared) : Prop :=
  ∃ ax o vs news, ∃ J : Nat → List Value → List (Addr × Obj) → Prop, xv = .ref ax ∧ A.handled = none ∧ Fr h₀ L s₁.heap m ∧ News h₀ L s₁.heap news ∧ SeqObj o vs ∧ (ax, o) ∈ news ∧ vs.length ≤ sizeLine ∧ (∀ i ys nw, J i ys nw → ys.length ≤ i ∧ (ax, o) ∈ nw) ∧ J 0 [] news ∧
    ∀ s₂ : Shared, (∃ h, s₂ = { s₁ with heap := h }) → TurnT prog w A h₀ L m env elt ifs x scope cl vs.length (fun i v => vs[i]? = some v) J s₂ ∧ ∀ ys nw, J vs.length ys nw → Fin s₂ ys nw
theorem SrcK.intro {elt : PySem.Expr} {ifs : List PySem.Expr} {x : Str} {scope : Scope} {cl : List (Str × Addr)} {Fin : Shared → List Value → List (Addr × Obj) → Prop} {s₁ : Shared} {ax : Addr} (o : Obj) (vs : List Value) {news : List (Addr × Obj)} (J : Nat → List Value → List (Addr × Obj) → Prop)
    (hh : A.handled = none) (F : Fr h₀ L s₁.heap m) (N : News h₀ L s₁.heap news) (ho : SeqObj o vs) (hm : (ax, o) ∈ news) (hsz : vs.length ≤ sizeLine) (hJ : ∀ i ys nw, J i ys nw → ys.length ≤ i ∧ (ax, o) ∈ nw) (h0 : J 0 [] news)
    (turn : ∀ g : Heap, TurnT prog w A h₀ L m env elt ifs x scope cl vs.length (fun i v => vs[i]? = some v) J { s₁ with heap := g }) (fin : ∀ (g : Heap) ys nw, J vs.length ys nw → Fin { s₁ with heap := g } ys nw) :
    SrcK prog w A h₀ L m env elt ifs x scope cl Fin (.ref ax) s₁ := ⟨ax, o, vs, news, J, rfl, hh, F, N, ho, hm, hsz, hJ, h0, fun _ ⟨g, e⟩ => e ▸ ⟨turn g, fin g⟩⟩
noncomputable def FinN (h₀ : Heap) (L : Addr) (m : Str → Option Value) (s : Shared) (Q : Value → Shared → Prop) (ys : List Value) (news : List (Addr × Obj)) : Prop :=
  ∀ D h tk, Fr h₀ L h m → News h₀ L h ((D, lst ys) :: news) → (∀ p ∈ news, p.1 ≠ D) → Q (.ref D) { s with heap := h, toks := tk }
noncomputable def FinY (h₀ : Heap) (L : Addr) (m : Str → Option Value) (s : Shared) (y : Str) (Q : Flow → Shared → Prop) (ys : List Value) (news : List (Addr × Obj)) : Prop :=
  ∀ D h tk, Fr h₀ L h (fun z => if z = y then some (.ref D) else m z) → News h₀ L h ((D, lst ys) :: news) → (∀ p ∈ news, p.1 ≠ D) → Q .next { s with heap := h, toks := tk }
theorem srcK_iter {elt iter : PySem.Expr} {ifs : List PySem.Expr} {x : Str} {px : Pos} {scope : Scope} {cl : List (Str × Addr)} {pos : Pos} {Fin : Shared → List Value → List (Addr × Obj) → Prop} {xv : Value} {s₁ : Shared} {RR : Value → Addr → Result → Shared → Prop}
    (hcell : ∀ y ∈ scope.names, y.2 ≠ .cell) (hkind : scope.kind = .function) (hx : scope.names.lookup x = some .local) (h₁ : SrcK prog w A h₀ L m env elt ifs x scope cl Fin xv s₁)
    (hRR : ∀ (g : Heap) D C h tk m' ys news', Fr h₀ L h m → News h₀ L h ((D, lst ys) :: news') → (∀ p ∈ news', p.1 ≠ D) → h.Ns C m' → h₀.get? C = none → h₀.get? D = none → C ≠ L → D ≠ L → C ≠ D → (∀ p ∈ news', p.1 ≠ C) → Fin { s₁ with heap := g } ys news' → RR (.ref D) C (.ok .next) { s₁ with heap := h, toks := tk }) :
    wpAny (model prog w) A (pyIter xv) (fun it s₂ => wpAny (model prog w) A (newList []) (fun acc s₃ => wpAny (model prog w) A (newFunctionEnv scope env.globals cl [] env.qual none .none (some env)) (fun cenv s₄ =>
      codeAny (model prog w) A (.compStart (.ListComp elt [⟨.Name x px, iter, ifs, 0⟩] scope pos) 0 it acc { cenv with scope := relabel scope env }) (RR acc cenv.locals) s₄) E s₃) E s₂) E s₁ := by
  obtain ⟨ax, o, vs, news, J, rfl, hh, F, N, ⟨hc, n, hd⟩, hm, hsz, hJ, h0, R⟩ := h₁
  have hlt : ax < s₁.heap.objs.size := Heap.lt_size (N _ hm).1
  have hfpx : ∀ (q : Obj), ∀ b ∈ [s₁.heap.objs.size, ax], b < (s₁.heap.push q).objs.size := fun q b hb => by
    rw [Heap.size_push]
    rcases List.mem_cons.mp hb with e | hb
    · rw [e]; exact Nat.lt_succ_self _
    · rw [List.mem_singleton.mp hb]; exact Nat.lt_succ_of_lt hlt
  have upk : ∀ (q : Obj), ∀ b o, s₁.heap.get? b = some o → (s₁.heap.push q).get? b = some o := fun q b o e => Heap.get?_push_of_some _ e
  have hsz' : vs.toArray.size = vs.length := List.size_toArray ..
  rcases hc with hc | hc
  · have hl : s₁.heap.IsList ax vs.toArray := ⟨o, (N _ hm).1, hc, n, hd⟩
    refine wpAny_pyIter_list hl ?_
    have Wl := Walks.list (prog := prog) (w := w) hh s₁.heap.objs.size ax (Nat.ne_of_lt hlt) vs.toArray
    rw [hsz'] at Wl
    refine blockI (J := J) Wl hsz (fun i h st => by obtain ⟨q, e, _⟩ := st.1; exact ⟨q, e⟩)
      (fun i ys h h' q nw st e e' Nw j => ⟨by obtain ⟨q', eq, r⟩ := st.1; rw [e] at eq; cases eq; exact ⟨q, e', r⟩, ⟨o, (Nw _ (hJ _ _ _ j).2).1, hc, n, hd⟩⟩) (fun i ys nw j => (hJ i ys nw j).1)
      hcell hkind hx ⟨⟨_, Heap.get?_push_size _ rfl, rfl, rfl⟩, hl.push _⟩ (hfpx _) (F.keeps (upk _)) (N.grown (upk _)) (Nat.ne_of_lt F.ns.lt) (next_is_new F) (fun p hp => Nat.ne_of_lt (Heap.lt_size (N p hp).1)) h0 ?_ ?_
    · intro i v ys nw I oI C oC D m₂ h tk E' j hi hP
      exact (R _ ⟨_, rfl⟩).1 i v ys nw I oI C oC D m₂ h tk E' j hi (by simpa using hP)
    · intro D C h tk m' ys news' F' N' o1 hn hC₀ hD₀ hCL hDL hCD offC fin
      exact hRR (s₁.heap.push { cls := .type "list_iterator", data := .fields #[.ref ax, .int 0 0] }) D C h tk m' ys news' F' N' o1 hn hC₀ hD₀ hCL hDL hCD offC ((R _ ⟨_, rfl⟩).2 ys news' fin)
  · have hl : s₁.heap.IsTuple ax vs.toArray := ⟨o, (N _ hm).1, hc, n, hd⟩
    refine wpAny_pyIter_tuple hl ?_
    have Wl := Walks.tuple (prog := prog) (w := w) hh s₁.heap.objs.size ax (Nat.ne_of_lt hlt) vs.toArray
    rw [hsz'] at Wl
    refine blockI (J := J) Wl hsz (fun i h st => by obtain ⟨q, e, _⟩ := st.1; exact ⟨q, e⟩)
      (fun i ys h h' q nw st e e' Nw j => ⟨by obtain ⟨q', eq, r⟩ := st.1; rw [e] at eq; cases eq; exact ⟨q, e', r⟩, ⟨o, (Nw _ (hJ _ _ _ j).2).1, hc, n, hd⟩⟩) (fun i ys nw j => (hJ i ys nw j).1)
      hcell hkind hx ⟨⟨_, Heap.get?_push_size _ rfl, rfl, rfl⟩, hl.push _⟩ (hfpx _) (F.keeps (upk _)) (N.grown (upk _)) (Nat.ne_of_lt F.ns.lt) (next_is_new F) (fun p hp => Nat.ne_of_lt (Heap.lt_size (N p hp).1)) h0 ?_ ?_
    · intro i v ys nw I oI C oC D m₂ h tk E' j hi hP
      exact (R _ ⟨_, rfl⟩).1 i v ys nw I oI C oC D m₂ h tk E' j hi (by simpa using hP)
    · intro D C h tk m' ys news' F' N' o1 hn hC₀ hD₀ hCL hDL hCD offC fin
      exact hRR (s₁.heap.push { cls := .type "tuple_iterator", data := .fields #[.ref ax, .int 0 0] }) D C h tk m' ys news' F' N' o1 hn hC₀ hD₀ hCL hDL hCD offC ((R _ ⟨_, rfl⟩).2 ys news' fin)
theorem evalK {elt iter : PySem.Expr} {ifs : List PySem.Expr} {x : Str} {px : Pos} {scope : Scope} {cl : List (Str × Addr)} {pos : Pos} {Q : Value → Shared → Prop} (F₀ : Fr h₀ L s.heap m)
    (hclos : closureFor scope env = pure cl) (hcell : ∀ y ∈ scope.names, y.2 ≠ .cell) (hkind : scope.kind = .function)
    (hnames : ∀ y ∈ scope.names, y.2 = .local → scope.names.lookup y.1 = some .local) (hx : scope.names.lookup x = some .local)
    (h : wpAny (model prog w) A (eval iter env) (SrcK prog w A h₀ L m env elt ifs x scope cl (fun s₂ => FinN h₀ L m s₂ Q)) E s)
    (hs : ∀ x, foldedSetIterable iter env x = pure x := by intro _; rfl) :
    wpAny (model prog w) A (eval (.ListComp elt [⟨.Name x px, iter, ifs, 0⟩] scope pos) env) Q E s := by
  rw [eval_ListComp]
  refine wpAny_comprehension_free (use := none) rfl hs hclos hkind hnames (wpAny_mono h (fun xv s₁ h₁ => ?_) fun _ _ e => e)
  refine srcK_iter hcell hkind hx h₁ ?_
  intro g D C h tk m' ys news' F' N' o1 hn hC₀ hD₀ hCL hDL hCD offC fin
  refine ⟨m', hn, fun h'' hs'' => fin D h'' tk (F'.change hs'' hCL hC₀) (fun p hp => ?_) o1⟩
  refine ⟨hs''.extBut _ _ ?_ (N' p hp).1, (N' p hp).2⟩
  rcases List.mem_cons.mp hp with e | hp
  · rw [e]; exact Ne.symm hCD
  · exact offC p hp
theorem assignK {elt iter : PySem.Expr} {ifs : List PySem.Expr} {x y : Str} {px py : Pos} {scope : Scope} {cl : List (Str × Addr)} {pos spos : Pos} {Q : Flow → Shared → Prop} (F₀ : Fr h₀ L s.heap m) (hLe : env.locals = L)
    (hsw : swapsWith (.ListComp elt [⟨.Name x px, iter, ifs, 0⟩] scope pos) (some (.Name y py)) spos.line env = pure true)
    (hclos : closureFor scope env = pure cl) (hcell : ∀ z ∈ scope.names, z.2 ≠ .cell) (hkind : scope.kind = .function)
    (hnames : ∀ z ∈ scope.names, z.2 = .local → scope.names.lookup z.1 = some .local) (hx : scope.names.lookup x = some .local)
    (hy : env.kindOf y = some .local) (hp : (env.scope.kind == .class || (env.scope.kind == .module && env.locals != env.globals)) = false)
    (h : wpAny (model prog w) A (eval iter env) (SrcK prog w A h₀ L m env elt ifs x scope cl (fun s₂ => FinY h₀ L m s₂ y Q)) E s)
    (hs : ∀ x, foldedSetIterable iter env x = pure x := by intro _; rfl) :
    wpAny (model prog w) A (exec (.Assign [.Name y py] (.ListComp elt [⟨.Name x px, iter, ifs, 0⟩] scope pos) spos) env) Q E s := by
  subst hLe
  rw [exec_Assign_Name_used _ _ _ _ hsw]
  refine wpAny_bind (wpAny_standAt (wpAny_bind ?_))
  show wpAny _ A (do let _ ← comprehension (.ListComp elt [⟨.Name x px, iter, ifs, 0⟩] scope pos) scope env _ (newList []) false (eval iter env) (some (assign (.Name y py) env))) _ _ s
  refine wpAny_bind (wpAny_mono (wpAny_comprehension_free (use := some (assign (.Name y py) env)) (Q := fun _ s' => Q .next s') rfl hs hclos hkind hnames
    (wpAny_mono h (fun xv s₁ h₁ => ?_) fun _ _ e => e)) (fun _ s' hq => wpAny_pure (wpAny_pure hq)) fun _ _ e => e)
  refine srcK_iter hcell hkind hx h₁ ?_
  intro g D C h' tk m' ys news' F' N' o1 hn hC₀ hD₀ hCL hDL hCD offC fin
  show wpAny _ A (assign (.Name y py) env (.ref D)) _ _ _
  refine wpAny_assign_Name (wpAny_storeName_local hy F'.ns (fun h₂ hn₂ hs₂ => ?_) hp)
  have hL₀ : h₀.get? env.locals = none := Heap.get?_none_of_le F'.above
  have F₂ : Fr h₀ env.locals h₂ (fun z => if z = y then some (.ref D) else m z) := ⟨hn₂, fun b o e => hs₂.extBut b o (fun q => by rw [q, hL₀] at e; cases e) (F'.keep b o e), F'.above⟩
  refine ⟨m', hn.sameBut hs₂ hCL, fun h'' hs'' => fin D h'' _ (F₂.change hs'' hCL hC₀) (fun p hp => ?_) o1⟩
  have z : h₂.get? p.1 = some p.2 := hs₂.extBut _ _ (N' p hp).2.1 (N' p hp).1
  refine ⟨hs''.extBut _ _ ?_ z, (N' p hp).2⟩
  rcases List.mem_cons.mp hp with e | hp
  · rw [e]; exact Ne.symm hCD
  · exact offC p hp
end
end
section
section
open PyProof.Rows PyProof.Rows.LCg
variable {prog : Program} {w : World} {A : Around} {E : Value → Shared → Prop} {R : Result → Shared → Prop} {s : Shared} {h₀ : Heap} {L : Addr} {m : Str → Option Value} {env : Env}
theorem compStart_set {elt target iter ifs rest scope pos it acc env}
    (h0 : codeAny (model prog w) A (.compLoop (.SetComp elt (⟨target, iter, ifs, 0⟩ :: rest) scope pos) 0 it acc env) R s)
    (h : wpAny (model prog w) A (pyIter it) (fun it' s' => codeAny (model prog w) A (.compLoop (.SetComp elt (⟨target, iter, ifs, 0⟩ :: rest) scope pos) 0 it' acc env) R s')
      (notedBy (model prog w) A env fun x s' => R (.error x) s') s) :
    codeAny (model prog w) A (.compStart (.SetComp elt (⟨target, iter, ifs, 0⟩ :: rest) scope pos) 0 it acc env) R s := by
  refine codeAny_of_tree ?_
  show wpAny _ _ ((compStart (.SetComp elt (⟨target, iter, ifs, 0⟩ :: rest) scope pos) 0 it acc env).onRaise (fun x => do noteFrame x env; standAt theWindowsPlace)) _ _ s
  refine wpAny_notedAt ?_
  unfold compStart
  show wpAny _ _ (ask >>= _) _ _ s
  refine wpAny_bind (wpAny_askSetting (wpAny_ite ?_))
  split
  · first
      | exact wpAny_bind (wpAny_pure (wpAny_pure (And.intro rfl h0)))
      | exact wpAny_pure (And.intro rfl h0)
  · first
      | exact wpAny_bind (wpAny_rule (wpAny_bind (wpAny_standAt (wpAny_bind (wpAny_mono h (fun it' s' h' => wpAny_pure (And.intro rfl h')) fun _ _ x => x)))))
      | (refine wpAny_bind (wpAny_rule ?_); show wpAny _ _ (standAt iter.pos >>= _) _ _ s; exact wpAny_bind (wpAny_standAt (wpAny_bind (wpAny_mono h (fun it' s' h' => wpAny_pure (And.intro rfl h')) fun _ _ x => x))))
theorem compTurn_set (elt target iter : PySem.Expr) (scope : Scope) (pos : Pos) (it acc : Value) (env : Env) :
    compTurn (.SetComp elt [⟨target, iter, [], 0⟩] scope pos) 0 it acc env = (standAt iter.pos >>= fun _ => pyNext it >>= fun r => match r with
      | none => pure (.done .next)
      | some v => letOwnedTupleGo target it v >>= fun _ => assign target env v >>= fun _ =>
        (eval elt env >>= fun x => standAt elt.pos >>= fun _ => call (.builtin "set.add") [acc, x] >>= fun _ => pure ()) >>= fun _ =>
          again (.compLoop (.SetComp elt [⟨target, iter, [], 0⟩] scope pos) 0 it acc env)) := by rfl
theorem compLoop_set {elt target iter : PySem.Expr} {scope : Scope} {pos : Pos} {it acc : Value} {env : Env} (I : Nat → Shared → Prop)
    (turn : ∀ n s, I n s → wpAny (model prog w) A (pyNext it) (fun r s₁ => match r with
      | none => R (.ok .next) s₁
      | some v => wpAny (model prog w) A (assign target env v) (fun _ s₂ => wpAny (model prog w) A (eval elt env) (fun x s₃ =>
          wpAny (model prog w) A (call (.builtin "set.add") [acc, x]) (fun _ s₄ => ∃ m, m < n ∧ I m s₄) (notedBy (model prog w) A env fun e s' => R (.error e) s') s₃)
          (notedBy (model prog w) A env fun e s' => R (.error e) s') s₂) (notedBy (model prog w) A env fun e s' => R (.error e) s') s₁) (notedBy (model prog w) A env fun e s' => R (.error e) s') s)
    (n : Nat) (h : I n s) (ht : ∀ v, letOwnedTupleGo target it v = pure () := by intro _; rfl) :
    codeAny (model prog w) A (.compLoop (.SetComp elt [⟨target, iter, [], 0⟩] scope pos) 0 it acc env) R s := by
  refine codeAny_loop rfl I (fun n s hI => ?_) n h
  show wpAny _ _ ((compTurn (.SetComp elt [⟨target, iter, [], 0⟩] scope pos) 0 it acc env).onRaise (fun x => do noteFrame x env; theTreesLotGoes x)) _ _ s
  refine wpAny_noted ?_
  rw [compTurn_set]
  refine wpAny_bind (wpAny_standAt (wpAny_bind (wpAny_mono (turn n s hI) (fun r s₁ h₁ => ?_) fun _ _ h' => h')))
  cases r with
  | none => exact wpAny_pure h₁
  | some v =>
    refine wpAny_bind (wpAny_of_eq (ht v) ?_)
    exact wpAny_bind (wpAny_mono h₁ (fun _ s₂ h₂ => wpAny_bind (wpAny_bind (wpAny_mono h₂ (fun x s₃ h₃ => wpAny_bind (wpAny_standAt (wpAny_bind (wpAny_mono h₃
      (fun _ s₄ h₄ => wpAny_pure (wpAny_pure ⟨rfl, h₄⟩)) fun _ _ h' => h')))) fun _ _ h' => h'))) fun _ _ h' => h')
theorem newSet_led {Q : Value → Shared → Prop}
    (h : ∀ led : Bool, (led = true ∨ w.params.followText "set-order" = true) → Q (.ref s.heap.objs.size) { s with heap := s.heap.push (setObj0 led) }) :
    wpAny (model prog w) A (newSet (.type "set")) Q E s := by
  unfold newSet setsByText
  refine wpAny_bind (wpAny_bind (wpAny_askSetting (wpAny_pure ?_)))
  dsimp only
  simp only [newObj]
  refine wpAny_bind (wpAny_alloc (wpAny_pure (h (!(model prog w).w.params.followText "set-order") ?_)))
  cases hb : w.params.followText "set-order" with
  | true => exact .inr rfl
  | false => exact .inl (by show (!w.params.followText "set-order") = true; rw [hb]; rfl)
noncomputable def SEnd (h₀ : Heap) (L : Addr) (m : Str → Option Value) (s₁ : Shared) (nw : List (Addr × Obj)) (y : Value) (s' : Shared) : Prop := y = .bool true ∧ ∃ h' tk', s' = { s₁ with heap := h', toks := tk' } ∧ Fr h₀ L h' m ∧ News h₀ L h' nw
theorem send {s₁ : Shared} {nw all : List (Addr × Obj)} {h' : Heap} {tk : Nat} {b : Bool} (F : Fr h₀ L h' m) (N : News h₀ L h' all) (hb : b = true) (hs : ∀ p ∈ nw, p ∈ all) : SEnd h₀ L m s₁ nw (.bool b) { s₁ with heap := h', toks := tk } := ⟨by rw [hb], h', tk, rfl, F, fun p hp => N p (hs p hp)⟩
noncomputable def SrcS (prog : Program) (w : World) (A : Around) (h₀ : Heap) (L : Addr) (m : Str → Option Value) (env : Env) (elt : PySem.Expr) (x : Str) (scope : Scope) (cl : List (Str × Addr)) (Q : Value → Shared → Prop) (xv : Value) (s₁ : Shared) : Prop :=
  ∃ ax vs news, xv = .ref ax ∧ A.handled = none ∧ Fr h₀ L s₁.heap m ∧ News h₀ L s₁.heap news ∧ (ax, tupOf vs) ∈ news ∧ 0 < vs.length ∧
    (∀ (i : Nat) (v : Value) I oI C oC D oD m₂ h tk (E' : Value → Shared → Prop), vs[i]? = some v → NsObj oC m₂ → m₂ x = some v → Fr h₀ L h m → News h₀ L h ((I, oI) :: (C, oC) :: (D, oD) :: news) →
      wpAny (model prog w) A (eval elt (compEnvC scope cl C env)) (SEnd h₀ L m s₁ ((I, oI) :: (C, oC) :: (D, oD) :: news)) E' { s₁ with heap := h, toks := tk }) ∧
    (∀ D led h tk, (led = true ∨ w.params.followText "set-order" = true) → Fr h₀ L h m → News h₀ L h ((D, setObj1 led) :: news) → Q (.ref D) { s₁ with heap := h, toks := tk })
theorem evalS {elt iter : PySem.Expr} {x : Str} {px : Pos} {scope : Scope} {cl : List (Str × Addr)} {pos : Pos} {Q : Value → Shared → Prop} (F₀ : Fr h₀ L s.heap m)
    (hclos : closureFor scope env = pure cl) (hcell : ∀ y ∈ scope.names, y.2 ≠ .cell) (hkind : scope.kind = .function)
    (hnames : ∀ y ∈ scope.names, y.2 = .local → scope.names.lookup y.1 = some .local) (hx : scope.names.lookup x = some .local)
    (h : wpAny (model prog w) A (eval iter env) (SrcS prog w A h₀ L m env elt x scope cl Q) E s)
    (hs : ∀ x, foldedSetIterable iter env x = pure x := by intro _; rfl) :
    wpAny (model prog w) A (eval (.SetComp elt [⟨.Name x px, iter, [], 0⟩] scope pos) env) Q E s := by
  rw [arm_eval_SetComp]
  refine wpAny_comprehension_free (use := none) rfl hs hclos hkind hnames (wpAny_mono h (fun xv s₁ h₁ => ?_) fun _ _ e => e)
  obtain ⟨ax, vs, news, rfl, hh, F, N, hm, hne, turn, fin⟩ := h₁
  have hlt : ax < s₁.heap.objs.size := Heap.lt_size (N _ hm).1
  have hl : s₁.heap.IsTuple ax vs.toArray := ⟨_, (N _ hm).1, rfl, 0, rfl⟩
  have hsz' : vs.toArray.size = vs.length := List.size_toArray ..
  refine wpAny_pyIter_tuple hl ?_
  have W := Walks.tuple (prog := prog) (w := w) hh s₁.heap.objs.size ax (Nat.ne_of_lt hlt) vs.toArray
  rw [hsz'] at W
  have up1 : ∀ b o, s₁.heap.get? b = some o → (s₁.heap.push { cls := .type "tuple_iterator", data := .fields #[.ref ax, .int 0 0] }).get? b = some o := fun b o e => Heap.get?_push_of_some _ e
  have hst0 : (s₁.heap.push { cls := .type "tuple_iterator", data := .fields #[.ref ax, .int 0 0] }).IsTupleIter s₁.heap.objs.size ax 0 ∧ (s₁.heap.push { cls := .type "tuple_iterator", data := .fields #[.ref ax, .int 0 0] }).IsTuple ax vs.toArray := ⟨⟨_, Heap.get?_push_size _ rfl, rfl, rfl⟩, hl.push _⟩
  have hz1 : (s₁.heap.push { cls := .type "tuple_iterator", data := .fields #[.ref ax, .int 0 0] }).objs.size = s₁.heap.objs.size + 1 := Heap.size_push ..
  refine newSet_led fun led hled => ?_
  refine wpAny_newFunctionEnv hcell (by intro y hy; simp at hy) (fun h₁ hns₁ hsb₁ => ?_) hkind
  dsimp only at hns₁ hsb₁ ⊢
  generalize s₁.heap.push { cls := .type "tuple_iterator", data := .fields #[.ref ax, .int 0 0] } = H1 at *
  have hz2 : (H1.push (setObj0 led)).objs.size = s₁.heap.objs.size + 1 + 1 := by rw [Heap.size_push, hz1]
  have hacc0 : (H1.push (setObj0 led)).get? H1.objs.size = some (setObj0 led) := Heap.get?_push_size _ rfl
  have up2 : ∀ b o, H1.get? b = some o → (H1.push (setObj0 led)).get? b = some o := fun b o e => Heap.get?_push_of_some _ e
  generalize H1.push (setObj0 led) = H2 at *
  have hLlt : L < s₁.heap.objs.size := F.ns.lt
  have hnl : ∀ p ∈ news, p.1 < s₁.heap.objs.size := fun p hp => Heap.lt_size (N p hp).1
  rw [hz1] at hacc0
  rw [hz1]
  generalize hI : s₁.heap.objs.size = I at *
  rw [hz2] at hns₁ hsb₁ ⊢
  have n1 : I ≠ I + 1 := Nat.ne_of_lt (Nat.lt_succ_self _)
  have n2 : I ≠ I + 1 + 1 := Nat.ne_of_lt (Nat.lt_succ_of_lt (Nat.lt_succ_self _))
  have n3 : I + 1 ≠ I + 1 + 1 := Nat.ne_of_lt (Nat.lt_succ_self _)
  have below : ∀ b, b < I → b ≠ I ∧ b ≠ I + 1 ∧ b ≠ I + 1 + 1 := fun b hb => ⟨Nat.ne_of_lt hb, Nat.ne_of_lt (Nat.lt_succ_of_lt hb), Nat.ne_of_lt (Nat.lt_succ_of_lt (Nat.lt_succ_of_lt hb))⟩
  have fresh₀ : ∀ a, I ≤ a → h₀.get? a = none := fun a ha => Heap.get?_none_of_le (Nat.le_trans F.above (Nat.le_trans (Nat.le_of_lt hLlt) ha))
  have hI₀ := fresh₀ I (Nat.le_refl _)
  have hD₀ := fresh₀ (I + 1) (Nat.le_succ _)
  have hC₀ := fresh₀ (I + 1 + 1) (Nat.le_succ_of_le (Nat.le_succ _))
  have hIL : I ≠ L := Ne.symm (below L hLlt).1
  have hDL : I + 1 ≠ L := Ne.symm (below L hLlt).2.1
  have hCL : I + 1 + 1 ≠ L := Ne.symm (below L hLlt).2.2
  have old : ∀ b o, s₁.heap.get? b = some o → h₁.get? b = some o := fun b o e => hsb₁.extBut b o (below b (hI ▸ Heap.lt_size e)).2.2 (Heap.get?_push_of_some _ (up2 _ _ (up1 _ _ e)))
  have hstA : h₁.IsTupleIter I ax 0 ∧ h₁.IsTuple ax vs.toArray := by
    refine W.frame 0 _ _ hst0 fun b hb o e => ?_
    refine hsb₁.extBut b o ?_ (Heap.get?_push_of_some _ (up2 _ _ e))
    rcases List.mem_cons.mp hb with q | hb
    · rw [q]; exact n2
    · rw [List.mem_singleton.mp hb]; exact (below ax hlt).2.2
  have hacc : h₁.get? (I + 1) = some (setObj0 led) := hsb₁.extBut _ _ n3 (Heap.get?_push_of_some _ hacc0)
  have loop : ∀ s₃ : Shared, s₃ = { s₁ with heap := h₁, toks := s₁.toks + ([] : List (Str × Value)).length } →
      codeAny (model prog w) A (.compLoop (.SetComp elt [⟨.Name x px, iter, [], 0⟩] scope pos) 0 (.ref I) (.ref (I + 1)) (compEnvC scope cl (I + 1 + 1) env)) (compPost (model prog w) A E none Q (.ref (I + 1)) (I + 1 + 1)) s₃ := by
    rintro s₃ rfl
    refine compLoop_set
      (fun k s' => ∃ h' tk i m', s' = { s₁ with heap := h', toks := tk } ∧ i ≤ vs.length ∧ k = vs.length + 1 - i ∧ (h'.IsTupleIter I ax i ∧ h'.IsTuple ax vs.toArray) ∧ Fr h₀ L h' m ∧ h'.Ns (I + 1 + 1) m' ∧ News h₀ L h' ((I + 1, if i = 0 then setObj0 led else setObj1 led) :: news)) ?_ (vs.length + 1)
      ⟨h₁, _, 0, _, rfl, Nat.zero_le _, rfl, hstA, F.keeps old, hns₁, fun p hp => ?_⟩
    · intro k s' hI9
      refine gg fun gl hgl => ?_
      obtain ⟨h', tk, i, m', rfl, hi, rfl, hst', F', hn', N'⟩ := hI9
      refine hgl ?_
      clear hgl
      by_cases hlt : i < vs.length
      · refine W.item i _ _ _ hlt hst' fun v h₂ tk₂ hPv hst₂ hk₂ => ?_
        have hv : vs[i]? = some v := by simpa using hPv
        refine wpAny_assign_Name (wpAny_storeName_local (lookup_relabel_local hx) (hn'.at' fun o e => hk₂ _ o (by simpa using Ne.symm n2) e) (fun h₃ hn₃ hs₃ => ?_) (by simp [compEnvC, relabel, hkind]))
        have hst₃ : h₃.IsTupleIter I ax (i + 1) ∧ h₃.IsTuple ax vs.toArray := W.frame _ _ _ hst₂ fun b hb o e => by
          refine hs₃.extBut b o ?_ e
          show b ≠ I + 1 + 1
          rcases List.mem_cons.mp hb with q | hb
          · rw [q]; exact n2
          · rw [List.mem_singleton.mp hb]; exact (below ax ‹ax < I›).2.2
        obtain ⟨oI, heI, rI⟩ := id hst₃.1
        obtain ⟨oC, heC, hoC⟩ := ns_obj hn₃
        have F₃ : Fr h₀ L h₃ m := (fr_but F' hk₂ (Ne.symm hIL) hI₀).change hs₃ hCL hC₀
        have N₃ : News h₀ L h₃ ((I, oI) :: (I + 1 + 1, oC) :: (I + 1, if i = 0 then setObj0 led else setObj1 led) :: news) := fun p hp => by
          rcases List.mem_cons.mp hp with e | hp
          · rw [e]; exact ⟨heI, hIL, hI₀⟩
          · rcases List.mem_cons.mp hp with e | hp
            · rw [e]; exact ⟨heC, hCL, hC₀⟩
            · have pI : p.1 ≠ I ∧ p.1 ≠ I + 1 + 1 := by
                rcases List.mem_cons.mp hp with e | hp
                · rw [e]; exact ⟨Ne.symm n1, n3⟩
                · exact ⟨(below _ (hnl p hp)).1, (below _ (hnl p hp)).2.2⟩
              exact ⟨hs₃.extBut _ _ pI.2 (hk₂ _ _ (by simpa using pI.1) (N' p hp).1), (N' p hp).2⟩
        refine wpAny_mono (turn i v I oI (I + 1 + 1) oC (I + 1) _ _ h₃ _ _ hv hoC (by simp) F₃ N₃) (fun y s₄ h₄ => ?_) fun _ _ e => e
        obtain ⟨rfl, h4, tk4, rfl, F4, N4⟩ := h₄
        have hst4 : h4.IsTupleIter I ax (i + 1) ∧ h4.IsTuple ax vs.toArray := ⟨⟨oI, (N4 _ (.head _)).1, rI⟩, ⟨_, (N4 _ (.tail _ (.tail _ (.tail _ hm)))).1, rfl, 0, rfl⟩⟩
        have zS := N4 (I + 1, if i = 0 then setObj0 led else setObj1 led) (.tail _ (.tail _ (.head _)))
        have zC := (N4 (I + 1 + 1, oC) (.tail _ (.head _))).1
        by_cases h0 : i = 0
        · subst h0
          simp only [if_true] at zS
          refine set_add_first (s := { s₁ with heap := h4, toks := tk4 }) zS.1 fun h5 hs5 e5 => ?_
          refine ⟨vs.length + 1 - (0 + 1), by lia, h5, tk4 + 1, 0 + 1, _, rfl, hlt, rfl, W.frame _ _ _ hst4 fun b hb o e => hs5.extBut b o ?_ e, F4.change hs5 hDL hD₀, (hoC.ns zC).sameBut hs5 (Ne.symm n3), fun p hp => ?_⟩
          · rcases List.mem_cons.mp hb with q | hb
            · rw [q]; exact n1
            · rw [List.mem_singleton.mp hb]; exact (below ax ‹ax < I›).2.1
          · rcases List.mem_cons.mp hp with e | hp
            · rw [e]; exact ⟨e5, zS.2⟩
            · exact ⟨hs5.extBut _ _ (below _ (hnl p hp)).2.1 (N4 p (.tail _ (.tail _ (.tail _ hp)))).1, (N4 p (.tail _ (.tail _ (.tail _ hp)))).2⟩
        · simp only [h0, if_false] at zS
          refine set_add_again (s := { s₁ with heap := h4, toks := tk4 }) zS.1 ?_
          refine ⟨vs.length + 1 - (i + 1), by lia, h4, tk4 + 1, i + 1, _, rfl, hlt, rfl, hst4, F4, hoC.ns zC, fun p hp => ?_⟩
          rcases List.mem_cons.mp hp with e | hp
          · rw [e]; exact zS
          · exact N4 p (.tail _ (.tail _ (.tail _ hp)))
      · obtain rfl : i = vs.length := Nat.le_antisymm hi (Nat.not_lt.mp hlt)
        refine W.done _ _ _ hst' fun h₂ tk₂ hk₂ => ?_
        refine ⟨m', hn'.at' fun o e => hk₂ _ o (by simpa using Ne.symm n2) e, fun h'' hs'' => ?_⟩
        refine fin (I + 1) led h'' tk₂ hled ((fr_but F' hk₂ (Ne.symm hIL) hI₀).change hs'' hCL hC₀) fun p hp => ?_
        rw [if_neg (Nat.ne_of_gt hne)] at N'
        have z := N' p hp
        have pI : p.1 ≠ I ∧ p.1 ≠ I + 1 + 1 := by
          rcases List.mem_cons.mp hp with e | hp
          · rw [e]; exact ⟨Ne.symm n1, n3⟩
          · exact ⟨(below _ (hnl p hp)).1, (below _ (hnl p hp)).2.2⟩
        exact ⟨hs''.extBut _ _ pI.2 (hk₂ _ _ (by simpa using pI.1) z.1), z.2⟩
    · rcases List.mem_cons.mp hp with e | hp
      · rw [e]; exact ⟨hacc, hDL, hD₀⟩
      · exact ⟨old _ _ (N p hp).1, (N p hp).2⟩
  exact compStart_set (loop _ rfl) (W.self 0 _ _ _ hstA (loop _ rfl))
end
end
section
section
variable {prog : Program} {w : World} {A : Around} {K : Frag} {C : Addr} {R : Result → Shared → Prop} {h : Heap} {g : Array GenState} {d : Drawn} {t : Nat} {os : OsState}
open PySem.Builtin PySem.Builtin.ObjectAttr PySem.Builtin.Getset_descriptor
theorem new_own {cd : ClassData} {oc : Value} {od : Option Addr} {sl : Array (Option Value)} (X : K.In h) (hC : K.lookup C = some ⟨oc, od, .cls cd, sl⟩) (e1 : cd.abstract = false) (e2 : cd.hasDel = false)
    (typ : instIn K (.ref C) (.type "type") = some true) (sub : subIn K (.ref C) (.type "object") = some true) (base : peek K ⟨prog, w.params⟩ (Bind.staticBase (.ref C)) = some (.type "object")) (mob : peek K ⟨prog, w.params⟩ (Bind.madeBy (.type "object")) = some (some "object.__new__"))
    (hq : R (.ok (.ret (.ref (h.objs.size + 1)))) ⟨(h.push emptyDict).push (instObj C h.objs.size), g, d, t, os⟩) :
    codeAny (model prog w) A (.call (.builtin "object.__new__") ⟨[.ref C], []⟩) R ⟨h, g, d, t, os⟩ := by
  have F := PySem.F.objNew
  have typ := looks_instIn (M := model prog w) X typ
  have sub := looks_subIn (M := model prog w) X sub
  have base : Looks (model prog w) h (Bind.staticBase (.ref C)) (.type "object") := Looks.of_peek X base
  have mob : Looks (model prog w) h (Bind.madeBy (.type "object")) (some "object.__new__") := Looks.of_peek X mob
  have here : Looks (model prog w) h (Bind.madeHere "object.__new__" (.ref C)) () := base.andThen (mob.andThen (Looks.of_pure (by simp only [Option.map_some, bne_self_eq_false, Bool.false_eq_true, if_false])))
  have hC := X _ _ hC
  refine codeAny_call_builtin_code (Code.quiet_builtin _ F.quiet) ?_
  simp only [checkBuiltinCall, F.kind, F.split, F.row]
  have args : Bind.checkArgs "object.__new__" ⟨.hand, "object.__new__", "__new__", .cls, []⟩ ⟨[.ref C], []⟩ = pure () := by kernel_rfl
  rw [args]
  repeat (first | simp only [bne_self_eq_false, Bool.false_eq_true, if_false] | lk)
  refine codeAny_builtin F.entry ?_
  unfold Builtin.«object.__new__»
  have hC' := Heap.get?_push_of_some (instObj C (h.push emptyDict).objs.size.pred) (Heap.get?_push_of_some emptyDict hC)
  have fin : ∀ A', wpAny (model prog w) A' (do
      let d ← if typeHasDict (.ref C) then some <$> alloc { cls := .type "dict", data := .dict #[] } else pure none
      ret (← newObj (.ref C) .plain d)) (fun fin s' => match fin with | .done f => R (.ok f) s' | .again c' => c'.quiet = true ∧ codeAny (model prog w) A c' R s') (fun e s' => R (.error e) s') ⟨h, g, d, t, os⟩ := by
    intro A'
    show wpAny _ _ ((alloc emptyDict >>= fun x => pure (some x)) >>= _) _ _ _
    refine wpAny_bind (wpAny_bind (wpAny_alloc (wpAny_pure (wpAny_bind ?_))))
    show wpAny _ _ (newObjAsIs _ _ _) _ _ _
    unfold newObjAsIs classHasDel
    refine wpAny_bind (wpAny_alloc (wpAny_bind (wpAny_bind (wpAny_load (Heap.get?_push_of_some _ (Heap.get?_push_of_some _ hC)) (wpAny_pure ?_)))))
    rw [e2]
    refine wpAny_pure (wpAny_pure ?_)
    show R _ _
    rw [Heap.size_push]
    exact hq
  repeat (first | simp only [e1, Bool.false_eq_true, if_false] | exact fin _ | lk)

set_option maxHeartbeats 400000 in
theorem make_own {rest : List Value} {kw : List (Str × Value)} {fI : Addr} {cd : ClassData} {oc : Value} {od : Option Addr} {sl : Array (Option Value)} (X : K.In h) (hC : K.lookup C = some ⟨oc, od, .cls cd, sl⟩) (e4 : cd.mro.isEmpty = false)
    (call : specialIn K (.ref C) "__call__" = some (some (.builtin "type.__call__"))) (typ : instIn K (.ref C) (.type "type") = some true) (made : peek K ⟨prog, w.params⟩ (Bind.madeBy (.ref C)) = some none)
    (sub : subIn K (.ref C) (.ref C) = some true) (hi : findIn K (.ref C) "__init__" = some (some (.ref fI))) (hf : typeIn K (.ref fI) = some (.type "function"))
    (hq : wpAny (model prog w) (A.under (.builtin "type.__call__" ⟨.ref C :: rest, kw⟩)) (getAttr (.ref C) "__new__") (fun new s₁ => wpAny (model prog w) (A.under (.builtin "type.__call__" ⟨.ref C :: rest, kw⟩)) (PySem.call new (.ref C :: rest) kw)
      (fun obj s₂ => ∃ x, obj = .ref x ∧ K.In s₂.heap ∧ Looks (model prog w) s₂.heap (typeOf (.ref x)) (.ref C) ∧
        codeAny (model prog w) (A.under (.builtin "type.__call__" ⟨.ref C :: rest, kw⟩)) (.call (.ref fI) ⟨.ref x :: rest, kw⟩) (InitBack x R) s₂)
      (fun e s₃ => R (.error e) s₃) s₁) (fun e s₃ => R (.error e) s₃) ⟨h, g, d, t, os⟩) :
    codeAny (model prog w) A (.call (.ref C) ⟨rest, kw⟩) R ⟨h, g, d, t, os⟩ := by
  have made : Looks (model prog w) h (Bind.madeBy (.ref C)) none := Looks.of_peek X made
  have hm : Looks (model prog w) h (mroOf (.ref C)) cd.mro := (looks_clsIn X (by unfold clsIn; rw [hC])).andThen .now
  have call := looks_specialIn (M := model prog w) X call
  have typ := looks_instIn (M := model prog w) X typ
  have hC := X _ _ hC
  refine codeAny_of_tree ?_
  show wpAny _ _ (callAny (.ref C) _) _ _ _
  refine nd_load hC ?_
  show wpAny _ _ (callAny.viaDunder (.ref C) _) _ _ _
  unfold callAny.viaDunder
  refine wpAny_bind (call.at ?_)
  dsimp only
  rw [tc_bind]
  refine wpAny_bind (wpAny_pure (wpAny_bind (wpAny_pure ?_)))
  refine wpAny_pure (a := Fin.again (.call (.builtin "type.__call__") ⟨.ref C :: rest, kw⟩)) (And.intro rfl ?_)
  refine codeAny_call_builtin_at (Code.quiet_builtin _ (by decide +kernel)) entry_typeCall (check_slot tc_kind tc_split typ (tc_args _ _ _) ?_)
  unfold Builtin.«type.__call__»
  dsimp only
  generalize getAttr (.ref C) "__new__" = GA at hq ⊢
  repeat (first | simp only [e4, Bool.false_eq_true, if_false] | lk)
  refine wpAny_mono hq (fun new s₁ hn => ?_) fun _ _ x => x
  refine wpAny_bind (wpAny_holding (wpAny_mono hn (fun obj s₂ ho => ?_) fun _ _ x => x))
  obtain ⟨x, rfl, X2, tx, hi2⟩ := ho
  have sb := looks_subIn (M := model prog w) X2 sub
  have si := looks_findIn (M := model prog w) X2 hi
  have bi := bind_fn (M := model prog w) X2 (.ref x) hf
  unfold isInstance callSpecial? specialOf
  repeat (first | simp only [Bool.not_true, Bool.false_eq_true, if_false] | with_reducible refine wpAny_call ?_ | lk)
  refine codeAny_mono hi2 fun r s' z => ?_
  rcases r with e | (v | _ | _ | _) <;> first | exact z | exact z.elim | skip
  obtain ⟨rfl, z⟩ := z
  exact wpAny_pure (wpAny_pure z)
end
section
variable {prog : Program} {w : World} {A : Around} {K : Frag} {C : Addr} {s : Shared} {h₀ : Heap} {L : Addr} {m : Str → Option Value} {news : List (Addr × Obj)} {E : Value → Shared → Prop} {Q : Value → Shared → Prop}
theorem new_ownN {cd : ClassData} {oc : Value} {od : Option Addr} {sl : Array (Option Value)} (F : Fr h₀ L s.heap m) (X : K.In h₀) (N : News h₀ L s.heap news) (hC : K.lookup C = some ⟨oc, od, .cls cd, sl⟩) (e1 : cd.abstract = false) (e2 : cd.hasDel = false)
    (typ : instIn K (.ref C) (.type "type") = some true) (sub : subIn K (.ref C) (.type "object") = some true) (base : peek K ⟨prog, w.params⟩ (Bind.staticBase (.ref C)) = some (.type "object")) (mob : peek K ⟨prog, w.params⟩ (Bind.madeBy (.type "object")) = some (some "object.__new__"))
    (h : ∀ x dx h', Fr h₀ L h' m → News h₀ L h' ((x, instObj C dx) :: (dx, dictOf [] 0) :: news) → (∀ p ∈ news, p.1 < dx) → dx < x → Q (.ref x) { s with heap := h' }) :
    wpAny (model prog w) A (call (.builtin "object.__new__") [.ref C]) Q E s := by
  obtain ⟨hh, g, d, t, os⟩ := s
  refine wpAny_call (new_own (X.keeps F.keep) hC e1 e2 typ sub base mob (h _ hh.objs.size _ ((F.push _).push _) ?_ (fun p hp => Heap.lt_size (N p hp).1) (Nat.lt_succ_self _)))
  have := (N.push F emptyDict).push (F.push _) (instObj C hh.objs.size)
  rwa [Heap.size_push] at this
end
theorem units_under_kw (A : Around) (C : Addr) (vals : List Value) (kw : List (Str × Value)) : (A.under (.builtin "type.__call__" ⟨.ref C :: vals, kw⟩)).units = A.units + 1 := rfl
end
section
namespace Dq
open PySem.Builtin PySem.Builtin.Deque
noncomputable abbrev T : String := "collections.deque"
noncomputable abbrev dqOf (vs : List Value) (k : Int) : Obj := { cls := .type "collections.deque", data := .fields (Value.none :: Value.int k 0 :: vs).toArray }
theorem mro : mroOf (.type T) = pure [.type T, .type "object"] := by rw [mroOf_type]; kernel_rfl
theorem lookNew : typeLookup (.type T) "__new__" = pure (some (.builtin "collections.deque.__new__")) := by rw [typeLookup_type, builtinLookup_eq_fast]; kernel_rfl
theorem slot_init : Slot T "__init__" "collections.deque.__init__" :=
  .of (owner := T) (n := "__init__") (by rw [typeLookup_type, builtinLookup_eq_fast]; kernel_rfl) (by decide +kernel) (by decide +kernel) (by decide +kernel)
    (by first | exact .inl (by decide +kernel) | exact .inr (by decide +kernel)) (by rw [isSubtype_type]; kernel_rfl)
theorem slot_len : Slot T "__len__" "collections.deque.__len__" :=
  .of (owner := T) (n := "__len__") (by rw [typeLookup_type, builtinLookup_eq_fast]; kernel_rfl) (by decide +kernel) (by decide +kernel) (by decide +kernel)
    (by first | exact .inl (by decide +kernel) | exact .inr (by decide +kernel)) (by rw [isSubtype_type]; kernel_rfl)
theorem slot_append : Slot T "append" "collections.deque.append" :=
  .of (owner := T) (n := "append") (by rw [typeLookup_type, builtinLookup_eq_fast]; kernel_rfl) (by decide +kernel) (by decide +kernel) (by decide +kernel)
    (by first | exact .inl (by decide +kernel) | exact .inr (by decide +kernel)) (by rw [isSubtype_type]; kernel_rfl)
theorem slot_pop : Slot T "pop" "collections.deque.pop" :=
  .of (owner := T) (n := "pop") (by rw [typeLookup_type, builtinLookup_eq_fast]; kernel_rfl) (by decide +kernel) (by decide +kernel) (by decide +kernel)
    (by first | exact .inl (by decide +kernel) | exact .inr (by decide +kernel)) (by rw [isSubtype_type]; kernel_rfl)
theorem type_append : typeOf (.builtin "collections.deque.append") = pure (.type "method_descriptor") := by show builtinType _ = _; rw [builtinType_eq_fast]; kernel_rfl
theorem type_pop : typeOf (.builtin "collections.deque.pop") = pure (.type "method_descriptor") := by show builtinType _ = _; rw [builtinType_eq_fast]; kernel_rfl
theorem sub_self : isSubtype (.type T) (.type T) = pure true := by rw [isSubtype_type]; kernel_rfl
theorem called : TypeCalled T "collections.deque.__new__" "collections.deque.__init__" :=
  ⟨by decide +kernel, by decide +kernel, ⟨_, _, mro⟩, madeBy_type mro lookNew (by decide +kernel), by decide +kernel, by rw [isSubtype_type]; kernel_rfl, slot_init⟩
theorem typeCall_0 : checkTypeCall T ⟨[], []⟩ = pure () := by kernel_rfl
theorem newCall_0 : checkBuiltinCall "collections.deque.__new__" ⟨[.type T], []⟩ = pure () := by kernel_rfl
theorem entry_new : entryFor table "collections.deque.__new__" = some Builtin.«collections.deque.__new__» := entryFor_of_tree (by kernel_rfl)
theorem entry_init : entryFor table "collections.deque.__init__" = some Builtin.«collections.deque.__init__» := entryFor_of_tree (by kernel_rfl)
theorem entry_len : entryFor table "collections.deque.__len__" = some Builtin.«collections.deque.__len__» := entryFor_of_tree (by kernel_rfl)
theorem entry_append : entryFor table "collections.deque.append" = some Builtin.«collections.deque.append» := entryFor_of_tree (by kernel_rfl)
theorem entry_pop : entryFor table "collections.deque.pop" = some Builtin.«collections.deque.pop» := entryFor_of_tree (by kernel_rfl)
theorem plain_new : plainId "collections.deque.__new__" = true := by decide +kernel
theorem args_init (a : Value) : argsOk "collections.deque.__init__" ⟨[a], []⟩ := by unfold argsOk; kernel_rfl
theorem args_len (a : Value) : argsOk "collections.deque.__len__" ⟨[a], []⟩ := by unfold argsOk; kernel_rfl
theorem args_pop (a : Value) : argsOk "collections.deque.pop" ⟨[a], []⟩ := by unfold argsOk; kernel_rfl
theorem args_append (a b : Value) : argsOk "collections.deque.append" ⟨[a, b], []⟩ := by unfold argsOk; kernel_rfl
theorem kind_init : builtinKind "collections.deque.__init__" = some .slot := by kernel_rfl
theorem split_init : splitId "collections.deque.__init__" = some (T, "__init__") := by kernel_rfl
theorem noBool : typeLookup (.type T) "__bool__" = pure none := by rw [typeLookup_type, builtinLookup_eq_fast]; kernel_rfl
theorem sub_of_self : isSubtype (.type T) (.type T) = pure true := by rw [isSubtype_type]; kernel_rfl
section
variable {prog : Program} {w : World} {A : Around} {E : Value → Shared → Prop} {s : Shared} {h₀ : Heap} {L : Addr} {m : Str → Option Value} {news : List (Addr × Obj)}
theorem ext2 (a b : Value) (vs : List Value) : (a :: b :: vs).toArray.extract 2 (a :: b :: vs).toArray.size = vs.toArray := by simp
theorem new_body {Q : Fin → Shared → Prop} (hq : Q (.done (.ret (.ref s.heap.objs.size))) { s with heap := s.heap.push (dqOf [] 0) }) : wpAny (model prog w) A (Builtin.«collections.deque.__new__» ⟨[.type T], []⟩) Q E s := by
  unfold Builtin.«collections.deque.__new__» Deque.newArgs
  have hsub : isSubtype (.type T) (.type ty) = pure true := sub_self
  obtain ⟨hp, g, d, tk, os⟩ := s
  dsimp only
  wp_walk
  exact hq
theorem len_body {d : Addr} {vs : List Value} {k : Int} {Q : Fin → Shared → Prop} (hd : s.heap.get? d = some (dqOf vs k)) (hq : Q (.done (.ret (.int vs.length s.toks))) { s with toks := s.toks + 1 }) :
    wpAny (model prog w) A (Builtin.«collections.deque.__len__» ⟨[.ref d], []⟩) Q E s := by
  unfold Builtin.«collections.deque.__len__» slotArgs
  obtain ⟨hp, g, dr, tk, os⟩ := s
  dsimp only at *
  wp_walk
  exact hq
theorem put {h : Heap} {d : Addr} {vs ws : List Value} {k k' : Int} (hd : h.get? d = some (dqOf vs k)) {f : Array Value → Array Value} (hf : f (Value.none :: Value.int k 0 :: vs).toArray = (Value.none :: Value.int k' 0 :: ws).toArray) :
    (h.update d (Obj.mapFields f)).get? d = some (dqOf ws k') := by
  have e : Obj.mapFields f (dqOf vs k) = dqOf ws k' := by
    show ({ cls := .type "collections.deque", data := .fields (f _) } : Obj) = _
    rw [hf]
  rw [← e]
  exact Heap.get?_update_self _ hd (by rw [e]; rfl)
noncomputable def appF (k : Int) (v : Value) (vs : Array Value) : Array Value := #[vs.getD 0 Value.none, rawInt (if true = true then k + 1 else k)] ++ (vs.extract 2 vs.size).push v
noncomputable def popF (k : Int) (vs : Array Value) : Array Value := #[vs.getD 0 Value.none, rawInt (if true = true then k + 1 else k)] ++ (vs.extract 2 vs.size).pop
theorem append_body {d : Addr} {vs : List Value} {k : Int} {v : Value} {Q : Fin → Shared → Prop} (hd : s.heap.get? d = some (dqOf vs k)) (hz : vs.length ≤ 1000) (hq : ∀ h', Heap.SameBut d s.heap h' → h'.get? d = some (dqOf (vs ++ [v]) (k + 1)) → Q (.done (.ret .none)) { s with heap := h' }) :
    wpAny (model prog w) A (Builtin.«collections.deque.append» ⟨[.ref d, v], []⟩) Q E s := by
  unfold Builtin.«collections.deque.append» selfAndOne noKeywords Deque.pushRight Deque.change Deque.state Deque.maxlen
  obtain ⟨hp, g, dr, tk, os⟩ := s
  dsimp only at *
  wp_walk
  have hf : ((appF k v) (Value.none :: Value.int k 0 :: vs).toArray) = (Value.none :: Value.int (k + 1) 0 :: (vs ++ [v])).toArray := by
    show #[Value.none, Value.int (k + 1) 0] ++ (Array.extract _ 2 _).push v = _
    rw [ext2]; simp
  have hd' := put (f := appF k v) hd hf
  have e : Obj.mapFields (appF k v) (dqOf vs k) = dqOf (vs ++ [v]) (k + 1) := by
    show ({ cls := .type "collections.deque", data := .fields ((appF k v) _) } : Obj) = _
    rw [hf]
  have hpl : (Obj.mapFields (appF k v) (dqOf vs k)).data.pastItsLine = none := by
    rw [e]
    show (if _ then _ else _) = _
    rw [if_neg]
    simp only [List.size_toArray]; simp only [List.length_cons, List.length_append, List.length_nil, PySem.sizeLine_eq]; lia
  show wpAny _ _ (match Data.pastItsLine (Obj.data (Obj.mapFields (appF k v) (dqOf vs k))) with | some what => unsupported what | x => pure ()) _ _ _
  rw [hpl]
  refine wpAny_pure ?_
  refine wpAny_bind (wpAny_bind (wpAny_bind (wpAny_fieldsOf hd' rfl ?_)))
  refine wpAny_pure (wpAny_pure (wpAny_pure ?_))
  exact wpAny_pure (hq _ (Heap.SameBut.update ..) hd')
theorem pop_body {d : Addr} {vs : List Value} {k : Int} {v : Value} {Q : Fin → Shared → Prop} (hd : s.heap.get? d = some (dqOf (vs ++ [v]) k)) (hz : vs.length ≤ 1000) (hq : ∀ h', Heap.SameBut d s.heap h' → h'.get? d = some (dqOf vs (k + 1)) → Q (.done (.ret v)) { s with heap := h' }) :
    wpAny (model prog w) A (Builtin.«collections.deque.pop» ⟨[.ref d], []⟩) Q E s := by
  unfold Builtin.«collections.deque.pop» selfOnly noKeywords Deque.change Deque.state
  obtain ⟨hp, g, dr, tk, os⟩ := s
  dsimp only at *
  wp_walk
  have hb : ((Value.none :: Value.int k 0 :: (vs ++ [v])).toArray.extract 2 (Value.none :: Value.int k 0 :: (vs ++ [v])).toArray.size).back? = some v := by
    rw [ext2]; simp
  rw [hb]
  refine wpAny_bind (wpAny_bind (wpAny_bind (wpAny_bind (wpAny_fieldsOf hd rfl ?_))))
  refine wpAny_pure (wpAny_pure ?_)
  have hf : ((popF k) (Value.none :: Value.int k 0 :: (vs ++ [v])).toArray) = (Value.none :: Value.int (k + 1) 0 :: vs).toArray := by
    show #[Value.none, Value.int (k + 1) 0] ++ (Array.extract _ 2 _).pop = _
    rw [ext2]; simp
  refine wpAny_updateFields (f := popF k) hd rfl ?_ (by rw [hf, List.size_toArray]; simp only [List.length_cons, PySem.sizeLine_eq]; lia)
  exact wpAny_pure (hq _ (Heap.SameBut.update ..) (put (f := popF k) hd hf))
theorem init_body {d : Addr} {k : Int} {Q : Fin → Shared → Prop} (hd : s.heap.get? d = some (dqOf [] k)) (hq : ∀ h', Heap.SameBut d s.heap h' → h'.get? d = some (dqOf [] k) → Q (.done (.ret .none)) { s with heap := h' }) :
    wpAny (model prog w) A (Builtin.«collections.deque.__init__» ⟨[.ref d], []⟩) Q E s := by
  unfold Builtin.«collections.deque.__init__» Deque.clear
  obtain ⟨hp, g, dr, tk, os⟩ := s
  dsimp only at *
  wp_walk
  exact hq _ (Heap.SameBut.update ..) (put hd (by rfl))
end
end Dq
end
section
namespace Dq
open PySem.Builtin PySem.Builtin.Deque
section
variable {prog : Program} {w : World} {A : Around} {E : Value → Shared → Prop} {s : Shared} {h₀ : Heap} {L : Addr} {m : Str → Option Value} {news : List (Addr × Obj)}
theorem append_N {d : Addr} {vs : List Value} {k : Int} {v : Value} {news' : List (Addr × Obj)} {Q : Value → Shared → Prop} (F : Fr h₀ L s.heap m) (N : News h₀ L s.heap news) (hz : vs.length ≤ 1000)
    (U : Upd d (dqOf vs k) (dqOf (vs ++ [v]) (k + 1)) news news') (h : ∀ h', Fr h₀ L h' m → News h₀ L h' news' → Q .none { s with heap := h' }) :
    wpAny (model prog w) A (call (.builtin "collections.deque.append") [.ref d, v]) Q E s := by
  obtain ⟨pre, post, rfl, e2, ha1, ha2⟩ := U.split
  have z := N _ (List.mem_append.mpr (.inr (.head _)))
  refine call_meets slot_append ⟨_, z.1, rfl⟩ entry_append (args_append _ _) (S := fun _ R s => (∃ o, s.heap.get? d = some o ∧ o = dqOf vs k) ∧ ∀ h', Heap.SameBut d s.heap h' → h'.get? d = some (dqOf (vs ++ [v]) (k + 1)) → R (.ok (.ret .none)) { s with heap := h' }) ?_ ⟨⟨_, z.1, rfl⟩, fun h' hs hd => h h' (F.change hs z.2.1 z.2.2) (e2 ▸ news_set N ha1 ha2 hs hd)⟩
  intro prog w A R s hS
  obtain ⟨⟨o, ho, rfl⟩, hS⟩ := hS
  exact append_body ho hz hS
theorem pop_N {d : Addr} {vs : List Value} {k : Int} {v : Value} {news' : List (Addr × Obj)} {Q : Value → Shared → Prop} (F : Fr h₀ L s.heap m) (N : News h₀ L s.heap news) (hz : vs.length ≤ 1000)
    (U : Upd d (dqOf (vs ++ [v]) k) (dqOf vs (k + 1)) news news') (h : ∀ h', Fr h₀ L h' m → News h₀ L h' news' → Q v { s with heap := h' }) :
    wpAny (model prog w) A (call (.builtin "collections.deque.pop") [.ref d]) Q E s := by
  obtain ⟨pre, post, rfl, e2, ha1, ha2⟩ := U.split
  have z := N _ (List.mem_append.mpr (.inr (.head _)))
  refine call_meets slot_pop ⟨_, z.1, rfl⟩ entry_pop (args_pop _) (S := fun _ R s => (∃ o, s.heap.get? d = some o ∧ o = dqOf (vs ++ [v]) k) ∧ ∀ h', Heap.SameBut d s.heap h' → h'.get? d = some (dqOf vs (k + 1)) → R (.ok (.ret v)) { s with heap := h' }) ?_ ⟨⟨_, z.1, rfl⟩, fun h' hs hd => h h' (F.change hs z.2.1 z.2.2) (e2 ▸ news_set N ha1 ha2 hs hd)⟩
  intro prog w A R s hS
  obtain ⟨⟨o, ho, rfl⟩, hS⟩ := hS
  exact pop_body ho hz hS
theorem plainAttrs : PlainAttrs T :=
  ⟨⟨"collections.deque.__getattribute__", by rw [typeLookup_type, builtinLookup_eq_fast]; kernel_rfl, by decide +kernel⟩, by rw [typeLookup_type, builtinLookup_eq_fast]; kernel_rfl⟩
theorem new_code {Q₁ : Value → Shared → Prop} (h : Q₁ (.ref s.heap.objs.size) { s with heap := s.heap.push (dqOf [] 0) }) :
    codeAny (model prog w) A (.call (.builtin "collections.deque.__new__") ⟨[.type "collections.deque"], []⟩) (wants Q₁ E) s := by
  refine codeAny_of_tree ?_
  show wpAny _ A.in1 (do checkBuiltinCall "collections.deque.__new__" ⟨[.type T], []⟩; again (.builtin "collections.deque.__new__" ⟨[.type T], []⟩)) _ _ s
  refine wpAny_bind (wpAny_of_eq newCall_0 (wpAny_pure ⟨plainId_quiet plain_new _, codeAny_builtin entry_new ?_⟩))
  rw [Around.under_plainId plain_new _]
  exact new_body h
theorem method {d : Addr} {vs : List Value} {k : Int} {name : Str} {id : String} {pl : Sem Bool} {Q : Value × List Value → Shared → Prop} (N : News h₀ L s.heap news) (hm : (d, dqOf vs k) ∈ news) (slot : Slot T name id) (hty : typeOf (.builtin id) = pure (.type "method_descriptor"))
    (h : Q (.builtin id, [.ref d]) s) : wpAny (model prog w) A (getMethod (.ref d) name pl) Q E s :=
  getMethod_builtin ⟨_, (N _ hm).1, rfl⟩ plainAttrs slot hty (fun a e => by cases e; exact ⟨_, (N _ hm).1, rfl⟩) h
theorem truth_N {d : Addr} {vs : List Value} {k : Int} {Q : Bool → Shared → Prop} (N : News h₀ L s.heap news) (hm : (d, dqOf vs k) ∈ news) (hz : vs.length ≤ 1000)
    (h : Q (!vs.isEmpty) { s with toks := s.toks + 1 + 1 }) : wpAny (model prog w) A (truthy (.ref d)) Q E s := by
  have hd := (N _ hm).1
  have hT : s.TypeIs (.ref d) T := ⟨_, hd, rfl⟩
  have hne : ((vs.length : Int) != 0) = !vs.isEmpty := by cases vs <;> simp <;> lia
  have key : wpAny (model prog w) A (runValue (.builtin "len" ⟨[.ref d], []⟩)) (fun r s' => r = .int vs.length (s.toks + 1) ∧ Q (!vs.isEmpty) s') E s := by
    refine wpAny_runValue (codeAny_builtin PySem.entry_len ?_)
    rw [Around.under_plainId plain_len _]
    unfold Builtin.«len»
    refine wpAny_bind (m := oneArg "len" _) (wpAny_pure ?_)
    refine wpAny_bind (m := callSpecial? (.ref d) (Str.ofString "__len__")) (wpAny_callSpecial?_slot (name := Str.ofString "__len__") hT slot_len
      (wpAny_call_entry slot_len hT Dq.entry_len ?_ (args_len _)))
    refine len_body hd ?_
    refine ⟨_, rfl, ?_⟩
    refine wpAny_bind (wpAny_holding (wpAny_pure ?_))
    refine wpAny_bind (wpAny_letGo ?_)
    show wpAny _ _ (if ((vs.length : Nat) : Int) < 0 then _ else _) _ _ _
    rw [if_neg (by lia)]
    show wpAny _ _ (if ((vs.length : Nat) : Int) ≥ 2 ^ 63 then _ else _) _ _ _
    rw [if_neg (by lia)]
    exact wpAny_bind (wpAny_mkInt (wpAny_pure ⟨rfl, h⟩))
  unfold truthy
  first
    | refine wpAny_bind (wpAny_callSpecial?_none (name := Str.ofString "__bool__") hT noBool ?_)
    | refine wpAny_bind (wpAny_pure (wpAny_bind (wpAny_callSpecial?_none (name := Str.ofString "__bool__") hT noBool ?_)))
  first
    | refine wpAny_bind (wpAny_specialOf (name := Str.ofString "__len__") hT slot_len.lookup ?_)
    | refine wpAny_bind (wpAny_pure (wpAny_bind (wpAny_specialOf (name := Str.ofString "__len__") hT slot_len.lookup ?_)))
  first
    | exact wpAny_bind (wpAny_mono key (fun r s' h' => by obtain ⟨rfl, hq⟩ := h'; exact wpAny_pure (hne ▸ hq)) fun _ _ e => e)
    | exact wpAny_bind (wpAny_pure (wpAny_bind (wpAny_mono key (fun r s' h' => by obtain ⟨rfl, hq⟩ := h'; exact wpAny_pure (hne ▸ hq)) fun _ _ e => e)))
theorem init_code {d : Addr} {k : Int} {Q₁ : Value → Shared → Prop} (hd : s.heap.get? d = some (dqOf [] k)) (hq : ∀ h', Heap.SameBut d s.heap h' → h'.get? d = some (dqOf [] k) → Q₁ .none { s with heap := h' }) :
    codeAny (model prog w) A (.call (.builtin "collections.deque.__init__") ⟨[.ref d], []⟩) (wants Q₁ E) s := by
  have ht : Looks (model prog w) s.heap (typeOf (.ref d)) (.type T) := (Looks.ld hd).andThen .now
  have hi : Looks (model prog w) s.heap (isInstance (.ref d) (.type T)) true := ht.andThen (Looks.of_pure sub_self)
  refine codeAny_call_builtin called.init.plain entry_init (@check_slot (model prog w) _ _ s "collections.deque.__init__" T "__init__" (.ref d) [] [] _ kind_init split_init hi (args_init (.ref d)) ?_)
  exact init_body hd hq
theorem make_N {Q : Value → Shared → Prop} (F : Fr h₀ L s.heap m) (N : News h₀ L s.heap news) (h : ∀ d h', Fr h₀ L h' m → News h₀ L h' ((d, dqOf [] 0) :: news) → (∀ p ∈ news, p.1 < d) → Q (.ref d) { s with heap := h' }) :
    wpAny (model prog w) A (call (.type "collections.deque") []) Q E s := by
  have N' := N.push F (dqOf [] 0)
  have F' := F.push (dqOf [] 0)
  have hl : ∀ p ∈ news, p.1 < s.heap.objs.size := fun p hp => Heap.lt_size (N p hp).1
  refine callType_codes (Q₁ := fun obj s₁ => obj = .ref s.heap.objs.size ∧ s₁ = { s with heap := s.heap.push (dqOf [] 0) }) called typeCall_0 entry_init (new_code ⟨rfl, rfl⟩) fun obj s₁ h₁ => ?_
  obtain ⟨rfl, rfl⟩ := h₁
  have hS : (s.heap.push (dqOf [] 0)).get? s.heap.objs.size = some (dqOf [] 0) := (N' _ (.head _)).1
  exact ⟨⟨_, hS, rfl⟩, args_init _, init_body hS fun h' hs hd => ⟨rfl, h _ h' (F'.change hs (N' _ (.head _)).2.1 (N' _ (.head _)).2.2) (news_set (pre := []) N' (fun _ hp => nomatch hp) (fun p hp => Nat.ne_of_lt (hl p hp)) hs hd) hl⟩⟩
end
end Dq
end
section
namespace Tr
open PySem.Builtin
noncomputable def Gr (n : Nat) (h h' : Heap) : Prop := ∀ (b : Nat) (o : Obj), b < n → h.get? b = some o → h'.get? b = some o
theorem Gr.refl {n : Nat} {h : Heap} : Gr n h h := fun _ _ _ e => e
theorem Gr.trans {n : Nat} {h h' h'' : Heap} (x : Gr n h h') (y : Gr n h' h'') : Gr n h h'' := fun b o l e => y b o l (x b o l e)
theorem Gr.push {n : Nat} {h h' : Heap} (x : Gr n h h') (o : Obj) : Gr n h (h'.push o) := fun b p l e => Heap.get?_push_of_some _ (x b p l e)
theorem Gr.same {n a : Nat} {h h' h'' : Heap} (x : Gr n h h') (l : n ≤ a) (y : Heap.SameBut a h' h'') : Gr n h h'' := fun b p lb e => (y.2 b (by intro q; subst q; exact absurd lb (by lia))).trans (x b p lb e)
theorem Gr.ext {n a : Nat} {h h' h'' : Heap} (x : Gr n h h') (l : n ≤ a) (y : Heap.ExtBut a h' h'') : Gr n h h'' := fun b p lb e => y b p (by intro q; subst q; exact absurd lb (by lia)) (x b p lb e)
theorem Gr.wr {n a : Nat} {h h' h'' : Heap} (x : Gr n h h') (l : n ≤ a) (y : ∀ b o, b ∉ [a] → h'.get? b = some o → h''.get? b = some o) : Gr n h h'' := fun b p lb e => y b p (by intro q; have q := List.mem_singleton.mp q; subst q; exact absurd lb (by lia)) (x b p lb e)
theorem Gr.exc {n : Nat} {h h' h'' : Heap} {e : Addr} {c : String} (x : Gr n h h') (y : Heap.NewExc h' h'' e c) : Gr n h h'' := fun b p lb e => y.keeps b p (x b p lb e)
theorem Gr.fr {h₀ h h' : Heap} {L : Addr} {m : Str → Option Value} (x : Gr h.objs.size h h') (F : Fr h₀ L h m) : Fr h₀ L h' m := by
  obtain ⟨oL, a1, a2, hoL, a3⟩ := F.ns
  exact ⟨⟨oL, a1, a2, x _ _ (Heap.lt_size hoL) hoL, a3⟩, fun b o e => x _ _ (Heap.lt_size (F.keep b o e)) (F.keep b o e), F.above⟩
theorem Gr.news {h₀ h h' : Heap} {L : Addr} {news : List (Addr × Obj)} (x : Gr h.objs.size h h') (N : News h₀ L h news) : News h₀ L h' news :=
  fun p hp => ⟨x _ _ (Heap.lt_size (N p hp).1) (N p hp).1, (N p hp).2⟩
theorem Gr.newsCons {h₀ h h' : Heap} {L : Addr} {m : Str → Option Value} {news : List (Addr × Obj)} {a : Addr} {o : Obj} (x : Gr h.objs.size h h') (F : Fr h₀ L h m) (N : News h₀ L h news) (l : h.objs.size ≤ a) (ho : h'.get? a = some o) : News h₀ L h' ((a, o) :: news) := by
  intro p hp
  rcases List.mem_cons.mp hp with rfl | hp
  · refine ⟨ho, ?_, ?_⟩
    · obtain ⟨oL, a1, a2, hoL, a3⟩ := F.ns
      intro q
      have := Heap.lt_size hoL
      dsimp only at q
      rw [← q] at this
      exact absurd this (Nat.not_lt.mpr l)
    · cases q : h₀.get? a with
      | none => rfl
      | some oo =>
        have := Heap.lt_size (F.keep _ _ q)
        exact absurd this (Nat.not_lt.mpr l)
  · exact x.news N p hp
theorem typeCall0 : checkTypeCall "dict" ⟨[], []⟩ = pure () := by kernel_rfl
theorem newCall0 : checkBuiltinCall "dict.__new__" ⟨[.type "dict"], []⟩ = pure () := by kernel_rfl
theorem args_init0 (a : Value) : argsOk "dict.__init__" ⟨[a], []⟩ := by unfold argsOk; kernel_rfl
theorem entry_from : entryFor table "dict.fromkeys" = some Builtin.«dict.fromkeys» := entryFor_of_tree (by kernel_rfl)
theorem entry_loop : entryFor table "dict.fromkeys.loop" = some Builtin.«dict.fromkeys.loop» := entryFor_of_tree (by kernel_rfl)
theorem plain_loop : plainId "dict.fromkeys.loop" = true := by decide +kernel
theorem plain_from : plainId "dict.fromkeys" = true := by decide +kernel
theorem check_from (x : Str) (t : Tok) : checkBoundCall "dict.fromkeys" ⟨[.type "dict", .str x t], []⟩ = pure () := by kernel_rfl
section
variable {prog : Program} {w : World} {A : Around} {E : Value → Shared → Prop} {s : Shared} {h₀ : Heap} {L : Addr} {m : Str → Option Value} {news : List (Addr × Obj)}
theorem code_new {Q₁ : Value → Shared → Prop} (h : Q₁ (.ref s.heap.objs.size) { s with heap := s.heap.push { cls := .type "dict", data := .dict #[] } }) :
    codeAny (model prog w) A (.call (.builtin "dict.__new__") ⟨[.type "dict"], []⟩) (wants Q₁ E) s := by
  refine codeAny_call_builtin F.kt_plain_dict_new F.kt_entry_dict_new (wpAny_of_eq newCall0 ?_)
  have hsub := F.kt_sub_dict
  have hmro := F.kt_mro_dict
  obtain ⟨hp, g, d, tk, os⟩ := s
  unfold Builtin.«dict.__new__»
  wp_walk
  exact h
theorem call_dict0 {Q : Value → Shared → Prop} (h : Q (.ref s.heap.objs.size) { s with heap := s.heap.push { cls := .type "dict", data := .dict #[] } }) : wpAny (model prog w) A (call (.type "dict") []) Q E s := by
  refine callType_codes (Q₁ := fun obj s₁ => obj = .ref s.heap.objs.size ∧ s₁ = { s with heap := s.heap.push { cls := .type "dict", data := .dict #[] } }) F.kt_called_dict typeCall0 F.entry_dict_init (code_new ⟨rfl, rfl⟩) ?_
  rintro obj s₁ ⟨rfl, rfl⟩
  have hnew : Shared.TypeIs { s with heap := s.heap.push { cls := .type "dict", data := .dict #[] } } (.ref s.heap.objs.size) "dict" := ⟨_, Heap.get?_push_size _ rfl, rfl⟩
  refine ⟨hnew, args_init0 _, ?_⟩
  unfold Builtin.«dict.__init__»
  refine wpAny_bind ?_
  unfold Builtin.Dict.selfAndRest
  refine wpAny_bind (wpAny_notOrdered_dict hnew ?_)
  show wpAny _ _ (pure (s.heap.objs.size, [])) _ _ _
  refine wpAny_pure ?_
  show wpAny _ _ (Builtin.Dict.addKeywords s.heap.objs.size [] >>= _) _ _ _
  exact wpAny_bind (wpAny_pure (wpAny_pure ⟨rfl, h⟩))
noncomputable def keysOf (cs : List Nat) : List (Str × Value) := cs.map fun c => (⟨#[c]⟩, Value.none)
theorem stored_new (cs : List Nat) (c : Nat) (h : c ∉ cs) : stored (keysOf cs) (⟨#[c]⟩ : Str) Value.none = keysOf (cs ++ [c]) := by
  unfold stored
  rw [if_neg]
  · simp [keysOf]
  · simp only [keysOf, List.any_map, List.any_eq_true, Function.comp, decide_eq_true_eq, not_exists, not_and]
    intro x hx e
    have : x = c := by simpa using congrArg Str.cps e
    exact h (this ▸ hx)
theorem loop {x : Str} {I d n₀ : Nat} {St : Nat → Heap → Prop} {Q : Value → Shared → Prop} (hnd : x.cps.toList.Nodup) (hz : x.cps.size ≤ 1000) (hdI : d ≠ I) (ld : n₀ ≤ d) (lI : n₀ ≤ I) (h00 : Heap)
    (W : Walks prog w A.in1 I [I] [I] x.cps.size (SignAt x) St) (hQ : ∀ h' tk, Gr n₀ h00 h' → h'.DictOf (PySem.strKind prog w) d (keysOf x.cps.toList) → Q (.ref d) { s with heap := h', toks := tk }) :
    ∀ (k i : Nat) (h : Heap) (tk : Tok), i + k = x.cps.size → St i h → Gr n₀ h00 h → h.DictOf (PySem.strKind prog w) d (keysOf (x.cps.toList.take i)) →
      codeAny (model prog w) A (.builtin "dict.fromkeys.loop" ⟨[.ref d, .ref I, .none], []⟩) (wants Q E) { s with heap := h, toks := tk } := by
  intro k
  induction k with
  | zero =>
    intro i h tk e hst hg hd
    refine codeAny_builtin entry_loop ?_
    rw [Around.under_plainId plain_loop _]
    unfold Builtin.«dict.fromkeys.loop»
    refine wpAny_bind ?_
    have e : i = x.cps.size := by lia
    subst e
    refine W.done _ _ _ hst fun h' tk' hw => wpAny_pure ?_
    refine hQ h' tk' (hg.wr lI hw) ?_
    rw [← Array.length_toList, List.take_length] at hd
    obtain ⟨o, es, ep, ho, r⟩ := hd
    exact ⟨o, es, ep, hw _ _ (by simpa using hdI) ho, r⟩
  | succ k ih =>
    intro i h tk e hst hg hd
    refine codeAny_builtin entry_loop ?_
    rw [Around.under_plainId plain_loop _]
    unfold Builtin.«dict.fromkeys.loop»
    refine wpAny_bind ?_
    refine W.item i _ _ _ (by lia) hst fun v h' tk' hs hst' hw => ?_
    obtain ⟨c, u, hc, rfl⟩ := hs
    have hd' : h'.DictOf (PySem.strKind prog w) d (keysOf (x.cps.toList.take i)) := by
      obtain ⟨o, es, ep, ho, r⟩ := hd
      exact ⟨o, es, ep, hw _ _ (by simpa using hdI) ho, r⟩
    have hc' : x.cps.toList[i]? = some c := by rw [Array.getElem?_toList]; exact hc
    have hnm : c ∉ x.cps.toList.take i := by
      intro hm
      obtain ⟨j, hj, e1⟩ := List.getElem_of_mem hm
      rw [List.length_take] at hj
      rw [List.getElem_take] at e1
      obtain ⟨hi, e2⟩ := List.getElem?_eq_some_iff.mp hc'
      have := (List.getElem_inj hnd).mp (e1.trans e2.symm)
      lia
    have htk : x.cps.toList.take (i + 1) = x.cps.toList.take i ++ [c] := by rw [List.take_add_one, hc']; rfl
    refine wpAny_bind (wpAny_typeOf (s := ⟨h', s.gens, s.drawn, tk', s.os⟩) hd'.typeIs ?_)
    rw [if_pos (by decide)]
    refine wpAny_bind (wpAny_pure (wpAny_bind (wpAny_holding (wpAny_dictSet_pairs (knd := PySem.strKind prog w) (k := (⟨#[c]⟩ : Str)) (by simp [PySem.strKind, Value.isStrOf]) hd' (fun h₂ hd₂ hs₂ => ?_) ?_))))
    · rw [stored_new _ _ hnm, ← htk] at hd₂
      refine wpAny_pure ⟨plainId_quiet plain_loop _, ?_⟩
      refine ih (i + 1) h₂ _ (by lia) (W.frame _ _ _ hst' fun b hb o ho => ?_) ((hg.wr lI hw).same ld hs₂) hd₂
      exact (hs₂.2 b (by intro q; subst q; exact hdI (by simpa using hb))).trans ho
    · simp [keysOf]; rw [PySem.sizeLine_eq]; lia
theorem fromkeys {x : Str} {t : Tok} {Q : Value → Shared → Prop} (hnd : x.cps.toList.Nodup) (hz : x.cps.size ≤ 1000) (hh : A.handled = none)
    (hQ : ∀ d h' tk, Gr s.heap.objs.size s.heap h' → s.heap.objs.size ≤ d → h'.DictOf (PySem.strKind prog w) d (keysOf x.cps.toList) → Q (.ref d) { s with heap := h', toks := tk }) :
    codeAny (model prog w) A (.builtin "dict.fromkeys" ⟨[.type "dict", .str x t], []⟩) (wants Q E) s := by
  refine codeAny_builtin entry_from ?_
  rw [Around.under_plainId plain_from _]
  have hsub := F.kt_sub_dict
  unfold Builtin.«dict.fromkeys»
  obtain ⟨hp, g, dr, tk, os⟩ := s
  dsimp only
  generalize hc : call (Value.type "dict") = CD
  wp_walk
  rw [← hc]
  refine call_dict0 ?_
  have hT : Shared.TypeIs ⟨hp.push { cls := .type "dict", data := .dict #[] }, g, dr, tk, os⟩ (.ref hp.objs.size) "dict" := ⟨_, Heap.get?_push_size _ rfl, rfl⟩
  refine wpAny_holding (wpAny_bind (wpAny_typeOf (typeIs_str _ x t) (wpAny_bind (wpAny_typeOf hT ?_))))
  rw [if_neg (by decide)]
  refine wpAny_bind (wpAny_typeOf hT ?_)
  rw [if_neg (by decide)]
  refine wpAny_bind (wpAny_pyIter_str fun o St W st0 => ?_)
  refine wpAny_pure ⟨plainId_quiet plain_loop _, ?_⟩
  have hd : (hp.push { cls := .type "dict", data := .dict #[] }).DictOf (PySem.strKind prog w) hp.objs.size [] := Heap.DictOf.new hp
  have hz2 : (hp.push { cls := .type "dict", data := .dict #[] }).objs.size = hp.objs.size + 1 := Heap.size_push ..
  have W1 := W A.in1 hh
  dsimp only at W1 st0 ⊢
  rw [hz2] at W1 ⊢
  refine loop (s := ⟨hp, g, dr, tk, os⟩) (n₀ := hp.objs.size) hnd hz (Nat.ne_of_lt (Nat.lt_succ_self _)) (Nat.le_refl _) (Nat.le_succ _) hp W1 (fun h' tk' hg hd' => hQ _ h' tk' hg (Nat.le_refl _) hd') x.cps.size 0 _ _ (by lia) st0 ?_ ?_
  · exact (Gr.refl.push _).push _
  · exact hd.push _
end
end Tr
end
section
theorem wp_eq {M : Model} {A : Around} {E : Value → Shared → Prop} {s : Shared} {α : Type} {t t' : Sem α} {Q : α → Shared → Prop} (e : t = t') (h : wpAny M A t' Q E s) : wpAny M A t Q E s := e ▸ h
theorem gen_forIn {M : Model} {A : Around} {E : Value → Shared → Prop} {s : Shared} {α β : Type} {Q : β → Shared → Prop} {l : List α} {init : β} {f : α → β → Sem (ForInStep β)} (h : ∀ g : α → β → Sem (ForInStep β), (∀ a b, g a b = f a b) → wpAny M A (forIn l init g) Q E s) :
    wpAny M A (forIn l init f) Q E s := h f fun _ _ => rfl
namespace Tr
open PySem.Builtin PySem.Builtin.Str
theorem entry_mk : entryFor table "str.maketrans" = some Builtin.«str.maketrans» := entryFor_of_tree (by kernel_rfl)
theorem plain_mk : plainId "str.maketrans" = true := by decide +kernel
theorem check_mk (d : Addr) : checkBuiltinCall "str.maketrans" ⟨[.ref d], []⟩ = pure () := by kernel_rfl
theorem sub_key : isSubtype (.type "KeyError") (.type "LookupError") = pure true := by rw [isSubtype_type]; kernel_rfl
noncomputable def intsOf (cs : List Nat) : List (Int × Value) := cs.map fun (c : Nat) => (Int.ofNat c, Value.none)
theorem storedI_new (cs : List Nat) (c : Nat) (h : c ∉ cs) : stored (intsOf cs) (c : Int) Value.none = intsOf (cs ++ [c]) := by
  unfold stored
  rw [if_neg]
  · simp [intsOf]
  · simp only [intsOf, List.any_map, List.any_eq_true, Function.comp, decide_eq_true_eq, not_exists, not_and]
    intro x hx e
    have : x = c := Int.ofNat.inj e
    exact h (this ▸ hx)
theorem valueAt_ints (cs : List Nat) (c : Nat) : valueAt (intsOf cs) (c : Int) = if c ∈ cs then some Value.none else none := by
  induction cs with
  | nil => rfl
  | cons x r ih =>
    simp only [valueAt, intsOf, List.map_cons, List.find?_cons] at ih ⊢
    by_cases e : x = c
    · subst e
      rw [if_pos (.head _), decide_eq_true (show Int.ofNat x = (x : Int) from rfl)]
      rfl
    · have h1 : ¬ (Int.ofNat x = (c : Int)) := fun q => e (Int.ofNat.inj q)
      have h2 : ¬ (c = x) := fun q => e q.symm
      simp only [decide_eq_false h1, List.mem_cons, h2, false_or]
      exact ih
section
variable {prog : Program} {w : World} {A : Around} {E : Value → Shared → Prop} {s : Shared} {h₀ : Heap} {L : Addr} {m : Str → Option Value} {news : List (Addr × Obj)}
theorem maketrans {d : Addr} {cs : List Nat} {Q : Value → Shared → Prop} (hnd : cs.Nodup) (hz : cs.length ≤ 1000) (hd : s.heap.DictOf (PySem.strKind prog w) d (keysOf cs)) (hds : (d == sysModules) = false)
    (hQ : ∀ tb h' tk, Gr s.heap.objs.size s.heap h' → s.heap.objs.size ≤ tb → h'.DictOf (PySem.intKind prog w) tb (intsOf cs) → Q (.ref tb) { s with heap := h', toks := tk }) :
    wpAny (model prog w) A (call (.builtin "str.maketrans") [.ref d]) Q E s := by
  refine wpAny_call (codeAny_call_builtin plain_mk entry_mk (wpAny_of_eq (check_mk d) ?_))
  unfold Builtin.«str.maketrans»
  obtain ⟨hp, g, dr, tk, os⟩ := s
  obtain ⟨o, es, ep, ho, hx, hdt, hkk, hpp, hn⟩ := hd
  dsimp only at *
  wp_walk
  have ht : (hp.push { cls := .type "dict", data := .dict #[] }).DictOf (PySem.intKind prog w) hp.objs.size (intsOf []) := Heap.DictOf.new hp
  have ho' := Heap.get?_push_of_some { cls := .type "dict", data := .dict #[] } ho
  have hT : Shared.TypeIs ⟨hp.push { cls := .type "dict", data := .dict #[] }, g, dr, tk, os⟩ (.ref d) "dict" := ⟨o, ho', hx.1⟩
  rw [hx.1]
  refine wpAny_pure (wpAny_bind (wpAny_typeOf hT ?_))
  rw [if_neg (by decide)]
  refine wpAny_bind ?_
  unfold notTheModulesDict
  rw [hds]
  refine wpAny_pure (wpAny_bind (wpAny_dictEntries ho' hdt (wpAny_bind ?_)))
  rw [← Array.forIn_toList]
  refine gen_forIn fun B hB => ?_
  refine wpAny_forIn_list _ (fun rest _ s' => ∃ (done left : List Nat) (h' : Heap) (tk' : Tok), s' = ⟨h', g, dr, tk', os⟩ ∧ cs = done ++ left ∧ Pairs (PySem.strKind prog w) rest (keysOf left) ∧ Gr hp.objs.size hp h' ∧ h'.DictOf (PySem.intKind prog w) hp.objs.size (intsOf done)) _ ?_ ?_ _ _ ⟨[], cs, _, _, rfl, rfl, hpp, Gr.refl.push _, ht⟩
  · intro e rest _ s' hI
    refine gg fun gl hgl => ?_
    obtain ⟨done, left, h', tk', rfl, hcs, hP, hg, hD⟩ := hI
    refine hgl ?_
    clear hgl
    refine wp_eq (hB _ _) ?_
    clear hB
    cases left with
    | nil => cases hP
    | cons c left =>
      cases hP with
      | cons hk hv hP =>
        obtain ⟨u, hk⟩ := Value.isStrOf_shape hk
        rw [hk, hv]
        refine wpAny_bind (wpAny_pure ?_)
        refine wpAny_bind (wpAny_mkInt ?_)
        have hnm : c ∉ done := by
          rw [hcs] at hnd
          intro hm
          exact (List.nodup_append.mp hnd).2.2 _ hm _ (.head _) rfl
        refine wpAny_bind (wpAny_dictSet_pairs (knd := PySem.intKind prog w) (k := (c : Int)) (by simp [PySem.intKind, Value.isInt]; rfl) hD (fun h₂ hd₂ hs₂ => ?_) ?_)
        · rw [storedI_new _ _ hnm] at hd₂
          exact wpAny_pure ⟨done ++ [c], left, h₂, _, rfl, by rw [hcs]; simp, hP, hg.same (Nat.le_refl _) hs₂, hd₂⟩
        · have : done.length ≤ cs.length := by rw [hcs]; simp
          simp only [intsOf, List.length_map]; rw [PySem.sizeLine_eq]; omega
  · intro _ s' hI
    refine gg fun gl hgl => ?_
    obtain ⟨done, left, h', tk', rfl, hcs, hP, hg, hD⟩ := hI
    refine hgl ?_
    clear hgl
    cases left with
    | cons c left => cases hP
    | nil =>
      rw [List.append_nil] at hcs
      subst hcs
      exact wpAny_pure (wpAny_pure (hQ _ h' tk' hg (Nat.le_refl _) hD))
theorem lookup {tb : Addr} {cs : List Nat} {c : Nat} {Q : PySem.Builtin.Str.Mapped → Shared → Prop} (hh : A.handled = none) (hd : s.heap.DictOf (PySem.intKind prog w) tb (intsOf cs)) (hts : (tb == sysModules) = false)
    (hQ : ∀ h' tk, (∀ b o, s.heap.get? b = some o → h'.get? b = some o) → Q (if c ∈ cs then .drop else .keep) { s with heap := h', toks := tk }) :
    wpAny (model prog w) A (PySem.Builtin.Str.tableLookup (.ref tb) c) Q E s := by
  unfold PySem.Builtin.Str.tableLookup
  refine wpAny_bind (wpAny_attempt (wpAny_bind (wpAny_mkInt ?_)))
  by_cases hc : c ∈ cs
  · rw [if_pos hc] at hQ
    refine wpAny_getItem_of (knd := PySem.intKind prog w) (k := (c : Int)) (by simp [PySem.intKind, Value.isInt]) hd.mapOf (by rw [valueAt_ints, if_pos hc]) ?_
    exact wpAny_pure (hQ _ _ fun b o e => e)
  · rw [if_neg hc] at hQ
    refine wpAny_getItem_missing_of (knd := PySem.intKind prog w) (k := (c : Int)) (by simp [PySem.intKind, Value.isInt]) hts hh hd.mapOf (by rw [valueAt_ints, if_neg hc]) fun h' e hE => ?_
    obtain ⟨ob, t, hob, hcl, -⟩ := hE.there
    refine wpAny_bind (wpAny_isInstance ⟨ob, hob, hcl⟩ sub_key ?_)
    rw [if_pos rfl]
    exact wpAny_bind (wpAny_rule (wpAny_pure (hQ _ _ hE.keeps)))
theorem translate {x : Str} {t : Tok} {tb : Addr} {cs : List Nat} {Q : Value → Shared → Prop} (hh : A.handled = none) (hd : s.heap.DictOf (PySem.intKind prog w) tb (intsOf cs)) (hts : (tb == sysModules) = false)
    (hx : x.cps.all (· < 128) = true) (h0 : x.cps.size ≠ 0) (hz : x.cps.size ≤ 1000)
    (hQ : ∀ h' tk t', (∀ b o, s.heap.get? b = some o → h'.get? b = some o) → Q (.str ⟨(x.cps.toList.filter fun c => !cs.contains c).toArray⟩ t') { s with heap := h', toks := tk }) :
    wpAny (model prog w) A (call (.builtin "str.translate") [.str x t, .ref tb]) Q E s := by
  refine wpAny_call_entry F.slot_str_translate (typeIs_str _ x t) F.entry_str_translate ?_ (F.args_str_translate_2 _ _)
  unfold Builtin.«str.translate»
  obtain ⟨hp, g, dr, tk, os⟩ := s
  dsimp only at *
  refine wpAny_bind (m := strOneArg "translate" _) ?_
  refine wpAny_bind (m := selfAndOne _ _) (wpAny_pure (wpAny_bind (m := textOf _) (wpAny_pure (wpAny_pure ?_))))
  dsimp only
  have h1 : (x.length == 0) = false := by simpa [Str.length] using h0
  rw [h1, hx]
  simp only [Bool.false_eq_true, if_false]
  have hlong : ∀ n, n ≤ 1000 → tooLong n = false := fun n hn => decide_eq_false (by rw [PySem.sizeLine_eq]; omega)
  have hsz : ∀ (done rest : List Nat), x.cps.toList = done ++ rest → (done.filter fun c => !cs.contains c).length ≤ 1000 := by
    intro done rest e
    have h2 := congrArg List.length e
    rw [Array.length_toList, List.length_append] at h2
    have h3 := List.length_filter_le (fun c => !cs.contains c) done
    omega
  have hfin : ∀ l : List Nat, (((l.map fun c => (⟨#[c]⟩ : PySem.Str)).reverse).reverse.foldl (fun acc p => acc ++ p.cps) #[]) = l.toArray := by
    intro l
    rw [List.reverse_reverse]
    have : ∀ (l : List Nat) (acc : Array Nat), (l.map fun c => (⟨#[c]⟩ : PySem.Str)).foldl (fun acc p => acc ++ p.cps) acc = acc ++ l.toArray := by
      intro l
      induction l with
      | nil => intro acc; simp
      | cons c l ih => intro acc; simp only [List.map_cons, List.foldl_cons]; rw [ih]; simp
    rw [this]; simp
  refine wpAny_bind ?_
  rw [← Array.forIn_toList]
  refine gen_forIn fun B hB => ?_
  refine wpAny_forIn_list _ (fun rest st s' => ∃ (done : List Nat) (known : List (Nat × Option Nat)) (h' : Heap) (tk' : Tok), s' = ⟨h', g, dr, tk', os⟩ ∧ x.cps.toList = done ++ rest ∧
    st = (((done.filter fun c => !cs.contains c).map fun c => (⟨#[c]⟩ : PySem.Str)).reverse, (done.filter fun c => !cs.contains c).length, true, known, false) ∧
    (∀ c a, known.lookup c = some a → a = if c ∈ cs then none else some c) ∧ (∀ b o, hp.get? b = some o → h'.get? b = some o)) _ ?_ ?_ _ _ ⟨[], [], _, _, rfl, rfl, rfl, (fun _ _ e => by cases e), (fun _ _ e => e)⟩
  · intro c rest _ s' hI
    refine gg fun gl hgl => ?_
    obtain ⟨done, known, h', tk', rfl, hcs, rfl, hkn, hext⟩ := hI
    refine hgl ?_
    clear hgl
    refine wp_eq (hB _ _) ?_
    clear hB
    have hdk : (done ++ [c]).filter (fun c => !cs.contains c) = done.filter (fun c => !cs.contains c) ++ (if c ∈ cs then [] else [c]) := by
      rw [List.filter_append]
      congr 1
      by_cases hc : c ∈ cs
      · simp [hc]
      · simp [hc]
    have hcs' : x.cps.toList = (done ++ [c]) ++ rest := by rw [hcs]; simp
    dsimp only
    rw [hlong _ (hsz _ _ hcs)]
    simp only [Bool.false_eq_true, if_false, if_true]
    cases hl : known.lookup c with
    | some a =>
      have ha := hkn _ _ hl
      subst ha
      dsimp only
      refine wpAny_bind (wpAny_pure ?_)
      by_cases hc : c ∈ cs
      · rw [if_pos hc] at hdk ⊢
        exact wpAny_pure ⟨done ++ [c], known, h', tk', rfl, hcs', by rw [hdk]; simp, hkn, hext⟩
      · rw [if_neg hc] at hdk ⊢
        exact wpAny_pure ⟨done ++ [c], known, h', tk', rfl, hcs', by rw [hdk]; simp, hkn, hext⟩
    | none =>
      dsimp only
      have hd' : h'.DictOf (PySem.intKind prog w) tb (intsOf cs) := by
        obtain ⟨o, es, ep, ho, r⟩ := hd
        exact ⟨o, es, ep, hext _ _ ho, r⟩
      have hkn' : ∀ c' a', ((c, if c ∈ cs then none else some c) :: known).lookup c' = some a' → a' = if c' ∈ cs then none else some c' := by
        intro c' a' e
        rw [List.lookup_cons] at e
        by_cases q : c' = c
        · subst q; rw [beq_self_eq_true] at e; exact (Option.some.inj e).symm
        · rw [beq_eq_false_iff_ne.mpr q] at e; exact hkn _ _ e
      refine wpAny_bind (lookup (cs := cs) hh hd' hts fun h₂ tk₂ hx₂ => ?_)
      by_cases hc : c ∈ cs
      · rw [if_pos hc] at hdk hkn' ⊢
        refine wpAny_bind (wpAny_pure ?_)
        exact wpAny_pure ⟨done ++ [c], _, h₂, tk₂, rfl, hcs', by rw [hdk]; simp, hkn', fun b o e => hx₂ b o (hext b o e)⟩
      · rw [if_neg hc] at hdk hkn' ⊢
        refine wpAny_bind (wpAny_pure ?_)
        exact wpAny_pure ⟨done ++ [c], _, h₂, tk₂, rfl, hcs', by rw [hdk]; simp, hkn', fun b o e => hx₂ b o (hext b o e)⟩
  · intro _ s' hI
    refine gg fun gl hgl => ?_
    obtain ⟨done, known, h', tk', rfl, hcs, rfl, hkn, hext⟩ := hI
    refine hgl ?_
    clear hgl
    rw [List.append_nil] at hcs
    dsimp only
    rw [hlong _ (hsz done [] (by rw [hcs]; simp))]
    simp only [Bool.false_eq_true, if_false]
    rw [hfin]
    refine wpAny_bind (wpAny_mkStr (wpAny_pure ⟨_, rfl, ?_⟩) ?_)
    · rw [← hcs]; exact hQ h' _ _ hext
    · show (List.toArray _).size ≤ _
      have := hsz done [] (by rw [hcs]; simp)
      rw [List.size_toArray, PySem.sizeLine_eq]; omega
end
end Tr
end
section
namespace Tr
open PySem.Builtin
theorem mk_look : typeLookup (.type "str") "maketrans" = pure (some (.builtin "str.maketrans")) := by rw [typeLookup_type, builtinLookup_eq_fast]; kernel_rfl
theorem mk_type : typeOf (.builtin "str.maketrans") = pure (.type "builtin_function_or_method") := by show builtinType _ = _; rw [builtinType_eq_fast]; kernel_rfl
theorem bf_get : typeLookup (.type "builtin_function_or_method") "__get__" = pure none := by rw [typeLookup_type, builtinLookup_eq_fast]; kernel_rfl
theorem ga_canon : (Manifest.canonical "object.__getattribute__" != "object.__getattribute__") = false := by decide +kernel
section
variable {prog : Program} {w : World} {A : Around} {E : Value → Shared → Prop} {s : Shared} {h₀ : Heap} {L : Addr} {m : Str → Option Value} {news : List (Addr × Obj)}
theorem meets_mk (x : Str) (t n : Tok) : Meets (Builtin.«object.__getattribute__» ⟨[.str x t, .str "maketrans" n], []⟩) (fun _ R s => R (.ok (.ret (.builtin "str.maketrans"))) s) := by
  intro prog w A R s hq
  obtain ⟨hp, g, d, tk, os⟩ := s
  have hT : ∀ s' : Shared, s'.TypeIs (.str x t) "str" := fun _ => rfl
  have h1 := mk_look
  have h2 := mk_type
  have h3 := bf_get
  unfold Builtin.«object.__getattribute__»
  repeat (any_goals (first | assumption | wp_step))
theorem get_mk {x : Str} {t : Tok} {Q : Value → Shared → Prop} (h : Q (.builtin "str.maketrans") { s with toks := s.toks + 1 }) : wpAny (model prog w) A (getAttr (.str x t) "maketrans" false) Q E s := by
  obtain ⟨hp, g, d, tk, os⟩ := s
  have hT : ∀ s' : Shared, s'.TypeIs (.str x t) "str" := fun _ => rfl
  have f3 := F.slot_str_getattribute.lookup
  have f4 := F.slot_str_getattribute.bind (.str x t)
  have f5 := am_str_getattr_none
  unfold getAttr getAttrBy
  repeat (any_goals (first | assumption | ((with_reducible show wpAny _ _ (call (Value.builtin "object.__getattribute__") _ _) _ _ _); refine call_meets F.slot_str_getattribute (hT _) F.entry_object_getattribute (F.args_object_getattribute_2 _ _) (meets_mk x t _) ?_) | wp_step))
  exact handed_on rfl h
theorem method_static {M : Model} {v : Value} {T : String} {name : Str} {f : Value} {pl : Sem Bool} {Q : Value × List Value → Shared → Prop} (hT : s.TypeIs v T) (pa : PlainAttrs T)
    (hl : typeLookup (.type T) name = pure (some f)) (hty : typeOf f = pure (.type "builtin_function_or_method")) (h : wpAny M A (getAttr v name false) (fun r s' => Q (r, []) s') E s) : wpAny M A (getMethod v name pl) Q E s := by
  obtain ⟨g, hg, hcan⟩ := pa.ga
  unfold getMethod
  refine wpAny_bind (wpAny_specialOf hT hg ?_)
  show wpAny M A (if (Manifest.canonical g != "object.__getattribute__") = true then _ else _) Q E s
  rw [hcan, if_neg Bool.false_ne_true]
  refine wpAny_bind (wpAny_specialOf hT pa.noGetattr ?_)
  refine wpAny_bind (wpAny_specialOf hT hl ?_)
  refine wpAny_bind (wpAny_of_eq hty ?_)
  exact wpAny_bind (wpAny_mono h (fun _ _ z => wpAny_pure z) fun _ _ z => z)
theorem method_mk {x : Str} {t : Tok} {pl : Sem Bool} {Q : Value × List Value → Shared → Prop} (h : Q (.builtin "str.maketrans", []) { s with toks := s.toks + 1 }) : wpAny (model prog w) A (getMethod (.str x t) "maketrans" pl) Q E s := by
  refine method_static (T := "str") (f := .builtin "str.maketrans") ?_ ?_ ?_ ?_ ?_
  · exact typeIs_str s x t
  · exact F.plainAttrs_str
  · exact mk_look
  · exact mk_type
  · exact get_mk h
structure StrTab (prog : Program) (w : World) (d : Addr) (o : Obj) (cs : List Nat) : Prop where
  low : (d == sysModules) = false
  tab : o.IsDictOf (PySem.strKind prog w) (keysOf cs)
structure IntTab (prog : Program) (w : World) (d : Addr) (o : Obj) (cs : List Nat) : Prop where
  low : (d == sysModules) = false
  tab : o.IsDictOf (PySem.intKind prog w) (intsOf cs)
noncomputable def fkBound : Obj := { cls := .type "builtin_function_or_method", data := .fields #[.builtin "dict.fromkeys", .type "dict"] }
theorem fk_type : typeOf (.builtin "dict.fromkeys") = pure (.type "classmethod_descriptor") := by show builtinType _ = _; rw [builtinType_eq_fast]; kernel_rfl
theorem fk_quiet {as : Args} : (Code.builtin "dict.fromkeys" as).quiet = true := Code.quiet_builtin _ (by decide +kernel)
theorem fk_owner : (kfb_private% "ownerAndName") "dict.fromkeys" = ("dict", "fromkeys") := by first | decide +kernel | kernel_rfl
theorem fk_isType : isType (.type "dict") = pure true := by first | rfl | kernel_rfl
theorem fk_bind {M : Model} {P : Fin → Shared → Prop} (h : P (.done (.ret (.ref s.heap.objs.size))) { s with heap := s.heap.push fkBound }) :
    wpAny M A (Builtin.«classmethod_descriptor.__get__» ⟨[.builtin "dict.fromkeys", .none, .type "dict"], []⟩) P E s := by
  unfold Builtin.«classmethod_descriptor.__get__»
  refine wpAny_bind (wpAny_of_eq (a := (.builtin "dict.fromkeys", none, some (.type "dict"))) (by kernel_rfl) ?_)
  simp only [fk_owner]
  refine wpAny_bind (wpAny_of_eq (a := .type "dict") rfl (wpAny_bind (wpAny_of_eq (a := true) fk_isType ?_)))
  rw [if_neg (by decide)]
  refine wpAny_bind (wpAny_of_eq (a := true) F.kt_sub_dict ?_)
  rw [if_neg (by decide)]
  exact wpAny_bind (wpAny_newObj_type (wpAny_pure h))
theorem fk_method {K : Frag} {pl : Sem Bool} {Q : Value × List Value → Shared → Prop} (F : Fr h₀ L s.heap m) (N : News h₀ L s.heap news) (X₀ : K.In h₀)
    (e : findCls K (.type "dict") (.type "type") (PySem.Str.ofString "fromkeys") = some (.get (.builtin "classmethod_descriptor.__get__") (.builtin "dict.fromkeys") .none (.type "dict")))
    (h : ∀ x h', Fr h₀ L h' m → News h₀ L h' ((x, fkBound) :: news) → (∀ p ∈ news, p.1 < x) → Q (.ref x, []) { s with heap := h', toks := s.toks + 1 }) :
    wpAny (model prog w) A (getMethod (.type "dict") (PySem.Str.ofString "fromkeys") pl) Q E s := by
  have X := X₀.keeps F.keep
  have LO : Looks (model prog w) s.heap (opaqueClassAbove (.type "dict")) none := Looks.of_pure (by unfold opaqueClassAbove; dsimp only; rw [show Manifest.isStub "dict" = false by decide +kernel]; rfl)
  have L0 : Looks (model prog w) s.heap (typeOf (.type "dict")) (.type "type") := Looks.of_pure (by first | rfl | kernel_rfl)
  have hg : findIn K (.type "type") "__getattribute__" = some (some (.builtin "type.__getattribute__")) := type_tga
  unfold getMethod specialOf
  refine wpAny_bind (wpAny_bind (L0.here ((looks_findIn X hg).here ?_)))
  dsimp only
  rw [if_pos canon_tga]
  refine wpAny_bind (wpAny_mono (Q := fun v => Q (v, [])) (E := E) ?_ (fun _ _ z => wpAny_pure z) fun _ _ z => z)
  refine cls_open X LO L0 hg (looks_hook X (r := none) (by rfl)) (by show subIn K _ _ = _; rfl) e ?_
  show wpAny _ _ (holding [.builtin "dict.fromkeys"] (call (.builtin "classmethod_descriptor.__get__") [.builtin "dict.fromkeys", .none, .type "dict"]) >>= fun v => ret v) _ _ _
  exact wpAny_bind (wpAny_holding (wpAny_call_entry KFB.slot_get fk_type KFB.entry_get (fk_bind ⟨_, rfl, wpAny_pure (wpAny_pure (h _ _ (F.push _) (News.push F N _) fun p hp => Heap.lt_size (N p hp).1))⟩) (KFB.args_get _ _ _)))
noncomputable def FkAt (x : Addr) (h : Heap) : Prop := h.get? x = some fkBound
theorem fk_callWith {pos : Pos} {u : Addr} {env : Env} {e : PySem.Expr} {Q : Value → Shared → Prop} (_N : News h₀ L s.heap news) (_hm : (u, fkBound) ∈ news)
    (h : wpAny (model prog w) A (spliced (backTo pos (starEach [e] env))) (fun vs s₁ => FkAt u s₁.heap ∧ wpAny (model prog w) A (call (.ref u) vs) Q E s₁) E s)
    (he : starEach [e] env = (false, eval e env) :: starEach [] env := by rfl) :
    wpAny (model prog w) A (callWith pos (.ref u) [] (backTo pos (starEach [e] env)) []) Q E s := by
  rw [he] at h ⊢
  unfold callWith
  have h2 : wpAny (model prog w) A (evalArgs (.ref u) true (backTo pos ((false, eval e env) :: starEach [] env)) []) (fun a s₁ => FkAt u s₁.heap ∧ wpAny (model prog w) A (call (.ref u) ([] ++ a.pos) a.kw) Q E s₁) E s := evalArgs_plain (x := eval e env) (rest := []) h
  refine wpAny_bind (wpAny_holding (wpAny_mono h2 (fun x s₁ h₁ => wpAny_bind (wpAny_standAt ?_)) fun _ _ x => x))
  obtain ⟨ho, hcall⟩ := h₁
  simp only [List.any_nil, Bool.or_false]
  refine wpAny_bind (m := keeperOf (.ref u)) ?_
  unfold keeperOf
  refine wpAny_bind (wpAny_load ho ?_)
  simp only [fkBound, show (Value.type "builtin_function_or_method" != Value.type "method") = true by decide, show (Value.type "builtin_function_or_method" == Value.type "builtin_function_or_method" || Value.type "builtin_function_or_method" == Value.type "method-wrapper") = true by decide, if_true]
  refine wpAny_pure ?_
  exact wpAny_bind (wpAny_mono hcall (fun r s₂ hr => wpAny_bind (wpAny_holding (wpAny_point (wpAny_pure hr)))) fun _ _ x => x)
theorem fromkeys_N {x : Str} {t : Tok} {u : Addr} {Q : Value → Shared → Prop} (F : Fr h₀ L s.heap m) (N : News h₀ L s.heap news) (hu : (u, fkBound) ∈ news) (hlow : sysModules < h₀.objs.size) (hh : A.handled = none) (hnd : x.cps.toList.Nodup) (hz : x.cps.size ≤ 1000)
    (hQ : ∀ d o h' tk, Fr h₀ L h' m → News h₀ L h' ((d, o) :: news) → (∀ p ∈ news, p.1 < d) → StrTab prog w d o x.cps.toList → Q (.ref d) { s with heap := h', toks := tk }) :
    wpAny (model prog w) A (call (.ref u) [.str x t]) Q E s := by
  refine wpAny_call (codeAny_of_tree ?_)
  show wpAny _ A.in1 (callAny (.ref u) ⟨[.str x t], []⟩) _ _ s
  simp only [callAny]
  refine wpAny_bind (wpAny_load (N _ hu).1 ?_)
  refine KFB.if_so rfl ?_
  refine wpAny_bind (wpAny_of_eq (a := ()) (check_from x t) ?_)
  refine wpAny_bind (wpAny_pure (wpAny_pure ⟨fk_quiet, ?_⟩))
  refine fromkeys hnd hz hh fun d h' tk hg hd hD => ?_
  obtain ⟨o, ho, hD⟩ := Heap.dictOf_iff.mp hD
  have hl : sysModules < s.heap.objs.size := by
    obtain ⟨oL, a1, a2, hoL, a3⟩ := F.ns
    exact Nat.lt_trans hlow (Nat.lt_of_le_of_lt F.above (Heap.lt_size hoL))
  refine hQ d o h' tk (hg.fr F) (hg.newsCons F N hd ho) (fun p hp => Nat.lt_of_lt_of_le (Heap.lt_size (N p hp).1) hd) ⟨?_, hD⟩
  exact beq_eq_false_iff_ne.mpr (Nat.ne_of_gt (Nat.lt_of_lt_of_le hl hd))
theorem maketrans_N {d : Addr} {o : Obj} {cs : List Nat} {Q : Value → Shared → Prop} (F : Fr h₀ L s.heap m) (N : News h₀ L s.heap news) (hlow : sysModules < h₀.objs.size) (hm : (d, o) ∈ news) (hT : StrTab prog w d o cs) (hnd : cs.Nodup) (hz : cs.length ≤ 1000)
    (hQ : ∀ d o h' tk, Fr h₀ L h' m → News h₀ L h' ((d, o) :: news) → (∀ p ∈ news, p.1 < d) → IntTab prog w d o cs → Q (.ref d) { s with heap := h', toks := tk }) :
    wpAny (model prog w) A (call (.builtin "str.maketrans") [.ref d]) Q E s := by
  refine maketrans hnd hz (Heap.dictOf_iff.mpr ⟨o, (N _ hm).1, hT.tab⟩) hT.low fun d h' tk hg hd hD => ?_
  obtain ⟨o, ho, hD⟩ := Heap.dictOf_iff.mp hD
  have hl : sysModules < s.heap.objs.size := by
    obtain ⟨oL, a1, a2, hoL, a3⟩ := F.ns
    exact Nat.lt_trans hlow (Nat.lt_of_le_of_lt F.above (Heap.lt_size hoL))
  refine hQ d o h' tk (hg.fr F) (hg.newsCons F N hd ho) (fun p hp => Nat.lt_of_lt_of_le (Heap.lt_size (N p hp).1) hd) ⟨?_, hD⟩
  exact beq_eq_false_iff_ne.mpr (Nat.ne_of_gt (Nat.lt_of_lt_of_le hl hd))
theorem translate_N {x r : Str} {t : Tok} {tb : Addr} {o : Obj} {cs : List Nat} {Q : Value → Shared → Prop} (F : Fr h₀ L s.heap m) (N : News h₀ L s.heap news) (hm : (tb, o) ∈ news) (hT : IntTab prog w tb o cs) (hh : A.handled = none)
    (hx : x.cps.toList.all (· < 128) = true) (h0 : x.cps.size ≠ 0) (hz : x.cps.size ≤ 1000) (hr : (⟨(x.cps.toList.filter fun c => !cs.contains c).toArray⟩ : Str) = r)
    (hQ : ∀ h' tk t', Fr h₀ L h' m → News h₀ L h' news → Q (.str r t') { s with heap := h', toks := tk }) :
    wpAny (model prog w) A (call (.builtin "str.translate") [.str x t, .ref tb]) Q E s := by
  subst hr
  exact translate hh (Heap.dictOf_iff.mpr ⟨o, (N _ hm).1, hT.tab⟩) hT.low (by rw [← Array.all_toList]; exact hx) h0 hz fun h' tk t' hk =>
    hQ h' tk t' (Gr.fr (fun b o _ e => hk b o e) F) (Gr.news (fun b o _ e => hk b o e) N)
end
end Tr
end
section
/-! the plain law, first part: fractions, quotients, lengths of runs -/
noncomputable abbrev NN := Nat × Nat
noncomputable def valF (c : Bool) (p : NN) : NN := if c then (p.1 + p.2, p.2) else (p.1, p.1 + p.2)
noncomputable def val (bs : List Bool) : NN := bs.foldr valF (1, 1)
noncomputable def oddN (d : Nat) : Bool := decide (d % 2 = 1)
noncomputable def bitsN (ds : List Nat) : List Bool := ds.map oddN
theorem val_pos : ∀ bs : List Bool, 1 ≤ (val bs).1 ∧ 1 ≤ (val bs).2
  | [] => ⟨Nat.le_refl _, Nat.le_refl _⟩
  | c :: r => by
    have := val_pos r
    show 1 ≤ (valF c (val r)).1 ∧ 1 ≤ (valF c (val r)).2
    cases c <;> simp [valF] <;> lia
theorem val_le : ∀ bs : List Bool, (val bs).1 + (val bs).2 ≤ 2 ^ (bs.length + 1)
  | [] => by decide
  | c :: r => by
    have h := val_le r
    show (valF c (val r)).1 + (valF c (val r)).2 ≤ 2 ^ (r.length + 1 + 1)
    rw [Nat.pow_succ]
    cases c <;> simp [valF] <;> lia
theorem fr4_val : ∀ (ds : List Nat) (f : Fr4), let g := ds.foldl Fr4.step f
    g.t + g.o = f.o * (val (bitsN ds)).1 + f.t * (val (bitsN ds)).2 ∧ g.b + g.u = f.u * (val (bitsN ds)).1 + f.b * (val (bitsN ds)).2
  | [], f => by
    show f.t + f.o = f.o * 1 + f.t * 1 ∧ f.b + f.u = f.u * 1 + f.b * 1
    lia
  | d :: r, f => by
    have h := fr4_val r (f.step d)
    dsimp only at h
    show (r.foldl Fr4.step (f.step d)).t + (r.foldl Fr4.step (f.step d)).o = f.o * (valF (oddN d) (val (bitsN r))).1 + f.t * (valF (oddN d) (val (bitsN r))).2 ∧ (r.foldl Fr4.step (f.step d)).b + (r.foldl Fr4.step (f.step d)).u = f.u * (valF (oddN d) (val (bitsN r))).1 + f.b * (valF (oddN d) (val (bitsN r))).2
    rw [h.1, h.2]
    unfold Fr4.step
    by_cases e : d % 2 = 0
    · have ho : oddN d = false := by unfold oddN; exact decide_eq_false (by lia)
      rw [if_pos e, ho]
      simp only [valF, Bool.false_eq_true, if_false]
      constructor <;> (simp only [Nat.add_mul, Nat.mul_add]; lia)
    · have ho : oddN d = true := by unfold oddN; exact decide_eq_true (by lia)
      rw [if_neg e, ho]
      simp only [valF, if_true]
      constructor <;> (simp only [Nat.add_mul, Nat.mul_add]; lia)
theorem fr4_is (ds : List Nat) : (fr4 ds).t + (fr4 ds).o = (val (bitsN ds)).1 ∧ (fr4 ds).b + (fr4 ds).u = (val (bitsN ds)).2 := by
  have h := fr4_val ds ⟨0, 1, 1, 0⟩
  dsimp only at h
  unfold fr4
  rw [h.1, h.2]
  lia
theorem climbTo_val (bs : List Bool) : climbTo bs.reverse = (((val bs).1 : Int), ((val bs).2 : Int)) := by
  unfold climbTo
  rw [List.foldl_reverse]
  induction bs with
  | nil => rfl
  | cons c r ih =>
    rw [List.foldr_cons, ih]
    show climbF _ c = (((valF c (val r)).1 : Int), ((valF c (val r)).2 : Int))
    cases c
    · simp [climbF, valF, Int.add_comm]
    · simp [climbF, valF]
noncomputable def incH : List Int → List Int
  | [] => []
  | a :: r => (a + 1) :: r
noncomputable def orient (c : Bool) (p : NN) : NN := if c then p else (p.2, p.1)
noncomputable def cfB : Bool → List Bool → List Int
  | _, [] => [1]
  | c, d :: r => if d = c then incH (cfB c r) else 0 :: incH (cfB d r)
theorem quots_add (k : Nat) (a b : Nat) (hb : 0 < b) : quots (k + 1) ((a + b : Nat) : Int) (b : Nat) = incH (quots (k + 1) (a : Nat) (b : Nat)) := by
  rw [quots, quots, if_neg (by lia), if_neg (by lia)]
  have e1 : Int.fdiv ((a + b : Nat) : Int) (b : Int) = Int.fdiv (a : Int) (b : Int) + 1 := by
    rw [Int.fdiv_eq_ediv_of_nonneg _ (by lia), Int.fdiv_eq_ediv_of_nonneg _ (by lia)]
    rw [Int.natCast_add, Int.add_ediv_of_dvd_right (Int.dvd_refl _), Int.ediv_self (by lia)]
  have e2 : Int.fmod ((a + b : Nat) : Int) (b : Int) = Int.fmod (a : Int) (b : Int) := by
    rw [Int.fmod_eq_emod_of_nonneg _ (by lia), Int.fmod_eq_emod_of_nonneg _ (by lia)]
    rw [Int.natCast_add, Int.add_emod_right]
  rw [e1, e2]; rfl
theorem quots_small (k a b : Nat) (h : a < b) : quots (k + 1) (a : Nat) (b : Nat) = 0 :: quots k (b : Nat) (a : Nat) := by
  rw [quots, if_neg (by lia)]
  have e1 : Int.fdiv (a : Int) (b : Int) = 0 := by
    rw [Int.fdiv_eq_ediv_of_nonneg _ (by lia)]
    exact Int.ediv_eq_zero_of_lt (by lia) (by lia)
  have e2 : Int.fmod (a : Int) (b : Int) = a := by
    rw [Int.fmod_eq_emod_of_nonneg _ (by lia)]
    exact Int.emod_eq_of_lt (by lia) (by lia)
  rw [e1, e2]
theorem orient_cons (c : Bool) (r : List Bool) : orient c (val (c :: r)) = ((orient c (val r)).1 + (orient c (val r)).2, (orient c (val r)).2) := by
  show orient c (valF c (val r)) = _
  cases c
  · simp [orient, valF, Nat.add_comm]
  · simp [orient, valF]
theorem orient_not (c : Bool) (p : NN) : orient (!c) p = ((orient c p).2, (orient c p).1) := by
  cases c <;> simp [orient]
theorem orient_pos (c : Bool) (bs : List Bool) : 1 ≤ (orient c (val bs)).1 ∧ 1 ≤ (orient c (val bs)).2 := by
  have := val_pos bs
  cases c <;> simp [orient] <;> lia
theorem quots_cf : ∀ (bs : List Bool) (c : Bool) (k : Nat), 2 * bs.length + 2 ≤ k → quots k ((orient c (val bs)).1 : Nat) ((orient c (val bs)).2 : Nat) = cfB c bs
  | [], c, k, hk => by
    obtain ⟨k, rfl⟩ : ∃ j, k = j + 2 := ⟨k - 2, by simp at hk; lia⟩
    have : orient c (val []) = (1, 1) := by cases c <;> rfl
    rw [this]
    show (if ((1 : Nat) : Int) = 0 then [] else Int.fdiv 1 1 :: quots (k + 1) 1 (Int.fmod 1 1)) = [1]
    rfl
  | d :: r, c, k, hk => by
    simp only [List.length_cons] at hk
    obtain ⟨k, rfl⟩ : ∃ j, k = j + 2 := ⟨k - 2, by lia⟩
    have hp := orient_pos d r
    have key : ∀ j, 2 * r.length + 2 ≤ j → quots j ((orient d (val (d :: r))).1 : Nat) ((orient d (val (d :: r))).2 : Nat) = incH (cfB d r) := by
      intro j hj
      obtain ⟨j, rfl⟩ : ∃ i, j = i + 1 := ⟨j - 1, by lia⟩
      rw [orient_cons]
      dsimp only
      rw [quots_add j _ _ (by lia), quots_cf r d (j + 1) hj]
    by_cases e : d = c
    · subst e
      rw [key (k + 2) (by lia), cfB, if_pos rfl]
    · have hc : c = !d := by cases c <;> cases d <;> simp_all
      rw [cfB, if_neg e, hc, orient_not]
      dsimp only
      have hlt : (orient d (val (d :: r))).2 < (orient d (val (d :: r))).1 := by rw [orient_cons]; dsimp only; lia
      rw [quots_small (k + 1) _ _ hlt, key (k + 1) (by lia)]
theorem quots_val (bs : List Bool) (k : Nat) (hk : 2 * bs.length + 2 ≤ k) : quots k ((val bs).1 : Nat) ((val bs).2 : Nat) = cfB true bs := quots_cf bs true k hk
noncomputable def kindC (c : Nat) : Bool := decide (c ∈ punctL)
noncomputable def runsC : List Nat → List (List Nat)
  | [] => []
  | a :: r => match runsC r with
    | [] => [[a]]
    | [] :: rest => [a] :: rest
    | (h :: t) :: rest => if kindC a = kindC h then (a :: h :: t) :: rest else [a] :: (h :: t) :: rest
noncomputable def lenC (xs : List (List Nat)) : List Int := xs.map fun x => (x.length : Int)
noncomputable def lensB (c : Bool) : List (List Nat) → List Int
  | [] => [0]
  | (h :: t) :: r => if kindC h = c then lenC ((h :: t) :: r) else 0 :: lenC ((h :: t) :: r)
  | [] :: r => 0 :: lenC r
theorem runsC_ne : ∀ (w : List Nat) (x : List Nat), x ∈ runsC w → x ≠ []
  | [], x, h => by cases h
  | a :: r, x, h => by
    have ih := runsC_ne r
    rw [runsC] at h
    revert h ih
    generalize runsC r = q
    intro h ih
    match q, h with
    | [], h => simp at h; subst h; simp
    | [] :: rest, h => exact absurd rfl (ih [] (.head _))
    | (p :: t) :: rest, h =>
      dsimp only at h
      split at h
      · rcases List.mem_cons.mp h with rfl | h
        · simp
        · exact ih x (.tail _ h)
      · rcases List.mem_cons.mp h with rfl | h
        · simp
        · exact ih x h
theorem runsC_head (a : Nat) (r : List Nat) : ∃ t rest, runsC (a :: r) = (a :: t) :: rest := by
  rw [runsC]
  generalize runsC r = q
  match q with
  | [] => exact ⟨_, _, rfl⟩
  | [] :: rest => exact ⟨_, _, rfl⟩
  | (p :: t) :: rest =>
    dsimp only
    split
    · exact ⟨_, _, rfl⟩
    · exact ⟨_, _, rfl⟩
theorem lensB_same (a : Nat) (r : List Nat) : lensB (kindC a) (runsC (a :: r)) = incH (lensB (kindC a) (runsC r)) := by
  cases r with
  | nil => simp [runsC, lensB, lenC, incH]
  | cons b s =>
    obtain ⟨t, rest, e⟩ := runsC_head b s
    rw [runsC, e]
    dsimp only
    by_cases h : kindC a = kindC b
    · rw [if_pos h, lensB, if_pos rfl, lensB, if_pos h.symm]
      simp [lenC, incH]
    · rw [if_neg h, lensB, if_pos rfl, lensB, if_neg (fun q => h q.symm)]
      simp [lenC, incH]
theorem lensB_other (c : Bool) (a : Nat) (r : List Nat) (h : kindC a ≠ c) : lensB c (runsC (a :: r)) = 0 :: lensB (kindC a) (runsC (a :: r)) := by
  obtain ⟨t, rest, e⟩ := runsC_head a r
  rw [e, lensB, if_neg h, lensB, if_pos rfl]
theorem lensB_ne (c : Bool) : ∀ q, lensB c q ≠ []
  | [] => by simp [lensB]
  | [] :: r => by simp [lensB]
  | (h :: t) :: r => by rw [lensB]; split <;> simp [lenC]
theorem bump_cons {a : Int} {l : List Int} (h : l ≠ []) : bump (a :: l) = a :: bump l := by
  unfold bump
  obtain ⟨b, r, rfl⟩ : ∃ b r, l = b :: r := by cases l with | nil => exact absurd rfl h | cons b r => exact ⟨b, r, rfl⟩
  simp [List.getD_eq_getElem?_getD]
theorem bump_incH {l : List Int} (h : l ≠ []) : bump (incH l) = incH (bump l) := by
  match l, h with
  | [a], _ => simp [incH, bump]
  | a :: b :: r, _ =>
    show bump ((a + 1) :: b :: r) = _
    rw [bump_cons (a := a + 1) (l := b :: r) (by simp), bump_cons (a := a) (l := b :: r) (by simp)]; rfl
theorem bump_lensB : ∀ (w : List Nat) (c : Bool), bump (lensB c (runsC w)) = cfB c (w.map kindC)
  | [], c => by simp [runsC, lensB, cfB, bump]
  | a :: r, c => by
    rw [List.map_cons, cfB]
    have key : bump (lensB (kindC a) (runsC (a :: r))) = incH (cfB (kindC a) (r.map kindC)) := by
      rw [lensB_same, bump_incH (lensB_ne _ _), bump_lensB r]
    by_cases h : kindC a = c
    · subst h
      rw [if_pos rfl, key]
    · rw [if_neg h, lensB_other c a r h, bump_cons (lensB_ne _ _), key]
end
section
/-! the plain law, second part: Stern and Brocot -/
noncomputable def lcp : List Bool → List Bool → List Bool
  | a :: r, b :: s => if a = b then a :: lcp r s else []
  | _, _ => []
theorem lcp_split : ∀ a b : List Bool, ∃ r s, a = lcp a b ++ r ∧ b = lcp a b ++ s ∧ (r = [] ∨ s = [] ∨ ∃ c r' s', r = c :: r' ∧ s = (!c) :: s')
  | [], b => ⟨[], b, rfl, rfl, .inl rfl⟩
  | a :: r, [] => ⟨a :: r, [], rfl, rfl, .inr (.inl rfl)⟩
  | a :: r, b :: s => by
    by_cases h : a = b
    · subst h
      obtain ⟨x, y, e1, e2, e3⟩ := lcp_split r s
      refine ⟨x, y, ?_, ?_, e3⟩
      · rw [lcp, if_pos rfl, List.cons_append, ← e1]
      · rw [lcp, if_pos rfl, List.cons_append, ← e2]
    · refine ⟨a :: r, b :: s, ?_, ?_, .inr (.inr ⟨a, r, s, rfl, ?_⟩)⟩
      · rw [lcp, if_neg h]; rfl
      · rw [lcp, if_neg h]; rfl
      · have : b = !a := by cases a <;> cases b <;> simp_all
        rw [this]
theorem lcp_comm : ∀ a b : List Bool, lcp a b = lcp b a
  | [], [] => rfl
  | [], _ :: _ => rfl
  | _ :: _, [] => rfl
  | a :: r, b :: s => by
    rw [lcp, lcp, lcp_comm r s]
    by_cases h : a = b
    · subst h; rfl
    · rw [if_neg h, if_neg (fun q => h q.symm)]
noncomputable abbrev vT (bs : List Bool) : Int := ((val bs).1 : Int)
noncomputable abbrev vB (bs : List Bool) : Int := ((val bs).2 : Int)
theorem val_app : ∀ w : List Bool, ∃ t b o u : Int, 0 ≤ t ∧ 0 ≤ b ∧ 0 ≤ o ∧ 0 ≤ u ∧ o * b = t * u + 1 ∧ ∀ r, vT (w ++ r) = o * vT r + t * vB r ∧ vB (w ++ r) = u * vT r + b * vB r
  | [] => ⟨0, 1, 1, 0, by decide, by decide, by decide, by decide, by decide, fun r => ⟨by simp, by simp⟩⟩
  | c :: w => by
    obtain ⟨t, b, o, u, ht, hb, ho, hu, hd, h⟩ := val_app w
    cases c with
    | true =>
      refine ⟨t + b, b, o + u, u, by lia, hb, by lia, hu, by grind, fun r => ?_⟩
      obtain ⟨h1, h2⟩ := h r
      have e1 : vT (true :: (w ++ r)) = vT (w ++ r) + vB (w ++ r) := by show (((valF true (val (w ++ r))).1 : Nat) : Int) = _; simp [valF]
      have e2 : vB (true :: (w ++ r)) = vB (w ++ r) := by show (((valF true (val (w ++ r))).2 : Nat) : Int) = _; simp [valF]
      rw [List.cons_append, e1, e2, h1, h2]
      constructor <;> grind
    | false =>
      refine ⟨t, t + b, o, o + u, ht, by lia, ho, by lia, by grind, fun r => ?_⟩
      obtain ⟨h1, h2⟩ := h r
      have e1 : vT (false :: (w ++ r)) = vT (w ++ r) := by show (((valF false (val (w ++ r))).1 : Nat) : Int) = _; simp [valF]
      have e2 : vB (false :: (w ++ r)) = vT (w ++ r) + vB (w ++ r) := by show (((valF false (val (w ++ r))).2 : Nat) : Int) = _; simp [valF]
      rw [List.cons_append, e1, e2, h1, h2]
      constructor <;> grind
theorem v_pos (bs : List Bool) : 1 ≤ vT bs ∧ 1 ≤ vB bs := by have := val_pos bs; simp only [vT, vB]; lia
theorem v_side (r : List Bool) (c : Bool) : if c then vB (c :: r) < vT (c :: r) else vT (c :: r) < vB (c :: r) := by
  have h := val_pos r
  cases c
  · show (((valF false (val r)).1 : Nat) : Int) < (((valF false (val r)).2 : Nat) : Int)
    simp [valF]; lia
  · show (((valF true (val r)).2 : Nat) : Int) < (((valF true (val r)).1 : Nat) : Int)
    simp [valF]; lia
theorem v_nil : vT [] = 1 ∧ vB [] = 1 := ⟨rfl, rfl⟩
theorem ceil_ge {n d q : Int} (hd : 0 < d) : n * q ≤ ceilAt n d q * d := by
  unfold ceilAt
  have h1 := Int.mul_fdiv_add_fmod (-n * q) d
  have h2 := Int.fmod_nonneg_of_pos (-n * q) hd
  grind
theorem ceil_le {n d q p : Int} (hd : 0 < d) (h : n * q ≤ p * d) : ceilAt n d q ≤ p := by
  unfold ceilAt
  have h1 := Int.mul_fdiv_add_fmod (-n * q) d
  have h2 := Int.fmod_lt_of_pos (-n * q) hd
  generalize Int.fdiv (-n * q) d = z at *
  generalize Int.fmod (-n * q) d = y at *
  have h3 : d * (-z) < d * (p + 1) := by grind
  have := Int.lt_of_mul_lt_mul_left h3 (Int.le_of_lt hd)
  lia
theorem between {t b o u n1 d1 n2 d2 p q : Int} (hd1 : 0 < d1) (hd2 : 0 < d2) (hq : 0 < q) (hp : 0 ≤ p) (hb : 0 ≤ b) (ho : 0 ≤ o) (ht : 0 ≤ t) (hu : 0 ≤ u) (hdet : o * b = t * u + 1)
    (lo : t * d1 < n1 * b) (hi : n2 * u < o * d2) (h1 : n1 * q ≤ p * d1) (h2 : p * d2 ≤ n2 * q) : b + u ≤ q ∧ t + o ≤ p := by
  have a1 : t * q < p * b := by
    have s1 : (t * d1) * q < (n1 * b) * q := Int.mul_lt_mul_of_pos_right lo hq
    have s2 : (n1 * q) * b ≤ (p * d1) * b := Int.mul_le_mul_of_nonneg_right h1 hb
    have s3 : d1 * (t * q) < d1 * (p * b) := by grind
    exact Int.lt_of_mul_lt_mul_left s3 (Int.le_of_lt hd1)
  have a2 : p * u < o * q := by
    have s1 : (n2 * u) * q < (o * d2) * q := Int.mul_lt_mul_of_pos_right hi hq
    have s2 : (p * d2) * u ≤ (n2 * q) * u := Int.mul_le_mul_of_nonneg_right h2 hu
    have s3 : d2 * (p * u) < d2 * (o * q) := by grind
    exact Int.lt_of_mul_lt_mul_left s3 (Int.le_of_lt hd2)
  have b1 : 1 ≤ p * b - t * q := by lia
  have b2 : 1 ≤ o * q - p * u := by lia
  constructor
  · have e : q = b * (o * q - p * u) + u * (p * b - t * q) := by grind
    have e1 : b * 1 ≤ b * (o * q - p * u) := Int.mul_le_mul_of_nonneg_left b2 hb
    have e2 : u * 1 ≤ u * (p * b - t * q) := Int.mul_le_mul_of_nonneg_left b1 hu
    lia
  · have e : p = t * (o * q - p * u) + o * (p * b - t * q) := by grind
    have e1 : t * 1 ≤ t * (o * q - p * u) := Int.mul_le_mul_of_nonneg_left b2 ht
    have e2 : o * 1 ≤ o * (p * b - t * q) := Int.mul_le_mul_of_nonneg_left b1 ho
    lia
theorem simple_of (w r s : List Bool) (hl : w.length ≤ 7) (hd : r = [] ∨ s = [] ∨ ∃ c r' s', r = c :: r' ∧ s = (!c) :: s') (hle : vT (w ++ r) * vB (w ++ s) ≤ vT (w ++ s) * vB (w ++ r)) :
    Simple (vT (w ++ r)) (vB (w ++ r)) (vT (w ++ s)) (vB (w ++ s)) (vT w) (vB w) := by
  obtain ⟨t, b, o, u, ht, hb, ho, hu, hdet, hv⟩ := val_app w
  obtain ⟨r1, r2⟩ := hv r
  obtain ⟨s1, s2⟩ := hv s
  obtain ⟨z1, z2⟩ := hv []
  rw [List.append_nil, v_nil.1, v_nil.2] at z1 z2
  have pr := v_pos r
  have ps := v_pos s
  have p1 := v_pos (w ++ r)
  have p2 := v_pos (w ++ s)
  have p0 := v_pos w
  have hord : vT r * vB s ≤ vT s * vB r := by
    rw [r1, r2, s1, s2] at hle
    generalize vT r = x1 at *
    generalize vB r = y1 at *
    generalize vT s = x2 at *
    generalize vB s = y2 at *
    have e : (o * x2 + t * y2) * (u * x1 + b * y1) - (o * x1 + t * y1) * (u * x2 + b * y2) = (x2 * y1 - x1 * y2) * (o * b - t * u) := by grind
    have : o * b - t * u = 1 := by lia
    rw [this] at e
    lia
  have hside : vT r ≤ vB r ∧ vB s ≤ vT s := by
    rcases hd with rfl | rfl | ⟨c, r', s', rfl, rfl⟩
    · rw [v_nil.1, v_nil.2] at hord ⊢
      lia
    · rw [v_nil.1, v_nil.2] at hord ⊢
      lia
    · have h1 := v_side r' c
      have h2 := v_side s' (!c)
      cases c with
      | false =>
        simp only [Bool.not_false, Bool.false_eq_true, if_false, if_true] at h1 h2 ⊢
        lia
      | true =>
        exfalso
        simp only [Bool.not_true, Bool.false_eq_true, if_false, if_true] at h1 h2 hord pr ps
        have q1 : vB (true :: r') * vT (false :: s') < vT (true :: r') * vT (false :: s') := Int.mul_lt_mul_of_pos_right h1 (by lia)
        have q2 : vT (true :: r') * vT (false :: s') < vT (true :: r') * vB (false :: s') := Int.mul_lt_mul_of_pos_left h2 (by lia)
        generalize vT (true :: r') = x1 at *
        generalize vB (true :: r') = y1 at *
        generalize vT (false :: s') = x2 at *
        generalize vB (false :: s') = y2 at *
        have e : y1 * x2 = x2 * y1 := Int.mul_comm ..
        lia
  have lo : t * vB (w ++ r) < vT (w ++ r) * b := by
    rw [r1, r2]
    generalize vT r = x1 at *
    generalize vB r = y1 at *
    have e : (o * x1 + t * y1) * b - t * (u * x1 + b * y1) = x1 * (o * b - t * u) := by grind
    rw [show o * b - t * u = 1 by lia] at e
    lia
  have hi : vT (w ++ s) * u < o * vB (w ++ s) := by
    rw [s1, s2]
    generalize vT s = x1 at *
    generalize vB s = y1 at *
    have e : o * (u * x1 + b * y1) - (o * x1 + t * y1) * u = y1 * (o * b - t * u) := by grind
    rw [show o * b - t * u = 1 by lia] at e
    lia
  have lo' : vT (w ++ r) * vB w ≤ vT w * vB (w ++ r) := by
    rw [r1, r2, z1, z2]
    generalize vT r = x1 at *
    generalize vB r = y1 at *
    have e : (o * 1 + t * 1) * (u * x1 + b * y1) - (o * x1 + t * y1) * (u * 1 + b * 1) = (y1 - x1) * (o * b - t * u) := by grind
    rw [show o * b - t * u = 1 by lia] at e
    lia
  have hi' : vT w * vB (w ++ s) ≤ vT (w ++ s) * vB w := by
    rw [s1, s2, z1, z2]
    generalize vT s = x1 at *
    generalize vB s = y1 at *
    have e : (o * x1 + t * y1) * (u * 1 + b * 1) - (o * 1 + t * 1) * (u * x1 + b * y1) = (x1 - y1) * (o * b - t * u) := by grind
    rw [show o * b - t * u = 1 by lia] at e
    lia
  have hc : ceilAt (vT (w ++ r)) (vB (w ++ r)) (vB w) ≤ vT w := ceil_le (by lia) lo'
  have cnn : ∀ q : Int, 1 ≤ q → 0 ≤ ceilAt (vT (w ++ r)) (vB (w ++ r)) q := by
    intro q hq
    have h := ceil_ge (n := vT (w ++ r)) (d := vB (w ++ r)) (q := q) (by lia)
    have h2 : 0 < vT (w ++ r) * q := Int.mul_pos (by lia) (by lia)
    rcases Int.lt_or_le (ceilAt (vT (w ++ r)) (vB (w ++ r)) q) 0 with h3 | h3
    · have := Int.mul_neg_of_neg_of_pos h3 (show 0 < vB (w ++ r) by lia)
      lia
    · exact h3
  have found : ceilAt (vT (w ++ r)) (vB (w ++ r)) (vB w) * vB (w ++ s) ≤ vT (w ++ s) * vB w :=
    Int.le_trans (Int.mul_le_mul_of_nonneg_right hc (by lia)) hi'
  refine ⟨?_, found, ?_, p0.2, ?_⟩
  · intro q hq hqB
    rcases Int.lt_or_le (vT (w ++ s) * q) (ceilAt (vT (w ++ r)) (vB (w ++ r)) q * vB (w ++ s)) with h | h
    · exact h
    · have := (between (p := ceilAt (vT (w ++ r)) (vB (w ++ r)) q) (q := q) (by lia) (by lia) (by lia) (cnn q hq) hb ho ht hu hdet lo hi (ceil_ge (by lia)) h).1
      lia
  · have := (between (p := ceilAt (vT (w ++ r)) (vB (w ++ r)) (vB w)) (q := vB w) (by lia) (by lia) (by lia) (cnn _ p0.2) hb ho ht hu hdet lo hi (ceil_ge (by lia)) found).2
    lia
  · have h := val_le w
    have : 2 ^ (w.length + 1) ≤ 2 ^ 8 := Nat.pow_le_pow_right (by decide) (by lia)
    simp only [vB]
    lia
theorem simpleOf_lcp (a b : List Bool) (hl : a.length ≤ 7) : SimpleOf (vT a) (vB a) (vT b) (vB b) (vT (lcp a b)) (vB (lcp a b)) := by
  obtain ⟨r, s, e1, e2, e3⟩ := lcp_split a b
  have hw : (lcp a b).length ≤ 7 := by
    have := congrArg List.length e1
    rw [List.length_append] at this
    lia
  unfold SimpleOf
  by_cases h : vT b * vB a < vT a * vB b
  · rw [if_pos h]
    have := simple_of (lcp a b) s r hw (by rcases e3 with h | h | ⟨c, r', s', h1, h2⟩; exact .inr (.inl h); exact .inl h; exact .inr (.inr ⟨!c, s', r', h2, by simp [h1]⟩)) (by rw [← e1, ← e2]; lia)
    rwa [← e1, ← e2] at this
  · rw [if_neg h]
    have := simple_of (lcp a b) r s hw e3 (by rw [← e1, ← e2]; lia)
    rwa [← e1, ← e2] at this
end
section
/-! the plain law, third part: the common prefix of many -/
noncomputable def ltB : List Bool → List Bool → Bool
  | [], [] => false
  | [], _ :: _ => true
  | _ :: _, [] => false
  | a :: r, b :: s => if a = b then ltB r s else (!a && b)
noncomputable def minF (m x : List Bool) : List Bool := if ltB x m then x else m
noncomputable def maxF (m x : List Bool) : List Bool := if ltB m x then x else m
noncomputable def minL : List (List Bool) → List Bool
  | [] => []
  | a :: r => r.foldl minF a
noncomputable def maxL : List (List Bool) → List Bool
  | [] => []
  | a :: r => r.foldl maxF a
theorem ltB_irr : ∀ a, ltB a a = false
  | [] => rfl
  | a :: r => by rw [ltB, if_pos rfl, ltB_irr r]
theorem ltB_asym : ∀ a b, ltB a b = true → ltB b a = false
  | [], [], _ => rfl
  | [], _ :: _, _ => rfl
  | _ :: _, [], h => by cases h
  | a :: r, b :: s, h => by
    rw [ltB] at h ⊢
    by_cases e : a = b
    · subst e
      rw [if_pos rfl] at h ⊢
      exact ltB_asym r s h
    · rw [if_neg e] at h
      rw [if_neg (fun q => e q.symm)]
      cases a <;> cases b <;> simp_all
theorem ltB_total : ∀ a b, ltB a b = false → ltB b a = false → a = b
  | [], [], _, _ => rfl
  | [], _ :: _, h, _ => by cases h
  | _ :: _, [], _, h => by cases h
  | a :: r, b :: s, h, h' => by
    rw [ltB] at h h'
    by_cases e : a = b
    · subst e
      rw [if_pos rfl] at h h'
      rw [ltB_total r s h h']
    · rw [if_neg e] at h
      rw [if_neg (fun q => e q.symm)] at h'
      cases a <;> cases b <;> simp_all
theorem leB_trans : ∀ a b c, ltB b a = false → ltB c b = false → ltB c a = false
  | [], b, c, _, _ => by cases c <;> rfl
  | a :: r, [], c, h, _ => by cases h
  | a :: r, b :: s, [], _, h => by cases h
  | a :: r, b :: s, c :: t, h, h' => by
    rw [ltB] at h h' ⊢
    by_cases e1 : b = a
    · subst e1
      rw [if_pos rfl] at h
      by_cases e2 : c = b
      · subst e2
        rw [if_pos rfl] at h' ⊢
        exact leB_trans r s t h h'
      · rw [if_neg e2] at h' ⊢
        exact h'
    · rw [if_neg e1] at h
      by_cases e2 : c = b
      · subst e2
        rw [if_neg e1]
        exact h
      · rw [if_neg e2] at h'
        cases a <;> cases b <;> cases c <;> simp_all
theorem minF_fold : ∀ (l : List (List Bool)) (m : List Bool), (l.foldl minF m = m ∨ l.foldl minF m ∈ l) ∧ ltB m (l.foldl minF m) = false ∧ ∀ x ∈ l, ltB x (l.foldl minF m) = false
  | [], m => ⟨.inl rfl, ltB_irr m, fun _ h => nomatch h⟩
  | a :: r, m => by
    obtain ⟨h1, h2, h3⟩ := minF_fold r (minF m a)
    rw [List.foldl_cons]
    generalize r.foldl minF (minF m a) = z at *
    have hma : ltB m (minF m a) = false ∧ ltB a (minF m a) = false ∧ (minF m a = m ∨ minF m a = a) := by
      unfold minF
      by_cases h : ltB a m = true
      · rw [if_pos h]; exact ⟨ltB_asym _ _ h, ltB_irr _, .inr rfl⟩
      · rw [if_neg h]; exact ⟨ltB_irr _, by simpa using h, .inl rfl⟩
    refine ⟨?_, leB_trans _ _ _ h2 hma.1, ?_⟩
    · rcases h1 with rfl | h1
      · rcases hma.2.2 with e | e
        · exact .inl e
        · rw [e]; exact .inr (.head _)
      · exact .inr (.tail _ h1)
    · intro x hx
      rcases List.mem_cons.mp hx with rfl | hx
      · exact leB_trans _ _ _ h2 hma.2.1
      · exact h3 x hx
theorem maxF_fold : ∀ (l : List (List Bool)) (m : List Bool), (l.foldl maxF m = m ∨ l.foldl maxF m ∈ l) ∧ ltB (l.foldl maxF m) m = false ∧ ∀ x ∈ l, ltB (l.foldl maxF m) x = false
  | [], m => ⟨.inl rfl, ltB_irr m, fun _ h => nomatch h⟩
  | a :: r, m => by
    obtain ⟨h1, h2, h3⟩ := maxF_fold r (maxF m a)
    rw [List.foldl_cons]
    generalize r.foldl maxF (maxF m a) = z at *
    have hma : ltB (maxF m a) m = false ∧ ltB (maxF m a) a = false ∧ (maxF m a = m ∨ maxF m a = a) := by
      unfold maxF
      by_cases h : ltB m a = true
      · rw [if_pos h]; exact ⟨ltB_asym _ _ h, ltB_irr _, .inr rfl⟩
      · rw [if_neg h]; exact ⟨ltB_irr _, by simpa using h, .inl rfl⟩
    refine ⟨?_, leB_trans _ _ _ hma.1 h2, ?_⟩
    · rcases h1 with rfl | h1
      · rcases hma.2.2 with e | e
        · exact .inl e
        · rw [e]; exact .inr (.head _)
      · exact .inr (.tail _ h1)
    · intro x hx
      rcases List.mem_cons.mp hx with rfl | hx
      · exact leB_trans _ _ _ hma.2.1 h2
      · exact h3 x hx
theorem minL_spec {l : List (List Bool)} (h : l ≠ []) : minL l ∈ l ∧ ∀ x ∈ l, ltB x (minL l) = false := by
  obtain ⟨a, r, rfl⟩ : ∃ a r, l = a :: r := by cases l with | nil => exact absurd rfl h | cons a r => exact ⟨a, r, rfl⟩
  obtain ⟨h1, h2, h3⟩ := minF_fold r a
  refine ⟨?_, fun x hx => ?_⟩
  · rcases h1 with e | e
    · rw [minL, e]; exact .head _
    · exact .tail _ e
  · rcases List.mem_cons.mp hx with rfl | hx
    · exact h2
    · exact h3 x hx
theorem maxL_spec {l : List (List Bool)} (h : l ≠ []) : maxL l ∈ l ∧ ∀ x ∈ l, ltB (maxL l) x = false := by
  obtain ⟨a, r, rfl⟩ : ∃ a r, l = a :: r := by cases l with | nil => exact absurd rfl h | cons a r => exact ⟨a, r, rfl⟩
  obtain ⟨h1, h2, h3⟩ := maxF_fold r a
  refine ⟨?_, fun x hx => ?_⟩
  · rcases h1 with e | e
    · rw [maxL, e]; exact .head _
    · exact .tail _ e
  · rcases List.mem_cons.mp hx with rfl | hx
    · exact h2
    · exact h3 x hx
theorem lcp_self : ∀ a, lcp a a = a
  | [] => rfl
  | a :: r => by rw [lcp, if_pos rfl, lcp_self r]
theorem lcp_between : ∀ m M x, ltB x m = false → ltB M x = false → ∃ y, x = lcp m M ++ y
  | [], M, x, _, _ => ⟨x, by cases M <;> rfl⟩
  | _ :: _, [], x, _, _ => ⟨x, rfl⟩
  | a :: r, b :: s, [], h, _ => by cases h
  | a :: r, b :: s, c :: t, h1, h2 => by
    rw [lcp]
    by_cases e : a = b
    · subst e
      rw [if_pos rfl]
      rw [ltB] at h1 h2
      by_cases e2 : c = a
      · subst e2
        rw [if_pos rfl] at h1 h2
        obtain ⟨y, hy⟩ := lcp_between r s t h1 h2
        exact ⟨y, by rw [hy, List.cons_append]⟩
      · rw [if_neg e2] at h1
        rw [if_neg (fun q => e2 q.symm)] at h2
        cases a <;> cases c <;> simp_all
    · rw [if_neg e]; exact ⟨c :: t, rfl⟩
theorem lcp_app : ∀ p x y, ∃ z, lcp (p ++ x) (p ++ y) = p ++ z
  | [], x, y => ⟨_, rfl⟩
  | a :: p, x, y => by
    obtain ⟨z, hz⟩ := lcp_app p x y
    exact ⟨z, by rw [List.cons_append, List.cons_append, lcp, if_pos rfl, hz, List.cons_append]⟩
theorem val_mono : ∀ p z : List Bool, (val p).1 ≤ (val (p ++ z)).1 ∧ (val p).2 ≤ (val (p ++ z)).2
  | [], z => val_pos z
  | c :: p, z => by
    have h := val_mono p z
    show (valF c (val p)).1 ≤ (valF c (val (p ++ z))).1 ∧ (valF c (val p)).2 ≤ (valF c (val (p ++ z))).2
    cases c <;> simp [valF] <;> omega
noncomputable def cpAll (l : List (List Bool)) : List Bool := lcp (minL l) (maxL l)
theorem cpAll_two (a b : List Bool) : cpAll [a, b] = lcp a b := by
  show lcp (minF a b) (maxF a b) = lcp a b
  unfold minF maxF
  by_cases h1 : ltB b a = true
  · rw [if_pos h1, if_neg (by rw [ltB_asym _ _ h1]; decide), lcp_comm]
  · by_cases h2 : ltB a b = true
    · rw [if_neg h1, if_pos h2]
    · rw [if_neg h1, if_neg h2]
      have := ltB_total a b (by simpa using h2) (by simpa using h1)
      subst this; rfl
theorem cpAll_le {l : List (List Bool)} {a b : List Bool} (ha : a ∈ l) (hb : b ∈ l) : (val (cpAll l)).1 ≤ (val (lcp a b)).1 ∧ (val (cpAll l)).2 ≤ (val (lcp a b)).2 := by
  have hne : l ≠ [] := by intro e; subst e; cases ha
  obtain ⟨-, h1⟩ := minL_spec hne
  obtain ⟨-, h2⟩ := maxL_spec hne
  obtain ⟨x, hx⟩ := lcp_between (minL l) (maxL l) a (h1 a ha) (h2 a ha)
  obtain ⟨y, hy⟩ := lcp_between (minL l) (maxL l) b (h1 b hb) (h2 b hb)
  obtain ⟨z, hz⟩ := lcp_app (lcp (minL l) (maxL l)) x y
  rw [← hx, ← hy] at hz
  rw [hz]
  exact val_mono _ z
theorem cpAll_at {l : List (List Bool)} (hl : 2 ≤ l.length) : ∃ (i j : Nat) (a b : List Bool), i < j ∧ l[i]? = some a ∧ l[j]? = some b ∧ cpAll l = lcp a b := by
  have hne : l ≠ [] := by intro e; subst e; simp at hl
  obtain ⟨m1, h1⟩ := minL_spec hne
  obtain ⟨m2, h2⟩ := maxL_spec hne
  obtain ⟨i, hi⟩ := List.mem_iff_getElem?.mp m1
  obtain ⟨j, hj⟩ := List.mem_iff_getElem?.mp m2
  rcases Nat.lt_trichotomy i j with h | h | h
  · exact ⟨i, j, _, _, h, hi, hj, rfl⟩
  · subst h
    have e : minL l = maxL l := Option.some.inj (hi.symm.trans hj)
    have all : ∀ x ∈ l, x = minL l := fun x hx => ltB_total _ _ (h1 x hx) (by rw [e]; exact h2 x hx)
    refine ⟨0, 1, _, _, by omega, List.getElem?_eq_getElem (by omega), List.getElem?_eq_getElem (by omega), ?_⟩
    rw [all _ (List.getElem_mem (by omega)), all _ (List.getElem_mem (by omega : 1 < l.length)), cpAll, ← e]
  · exact ⟨j, i, _, _, h, hj, hi, lcp_comm _ _⟩
end
section
/-! the plain law, fourth part: the lexer -/
noncomputable def Letter (c : Nat) : Prop := 65 ≤ c ∧ c ≤ 80
noncomputable def stOf (k : Bool) : Nat := if k then 2 else 1
theorem letter_all (P : Nat → Prop) (h : ∀ d : Fin 16, P (65 + d.val)) (c : Nat) (hc : Letter c) : P c := by
  have := h ⟨c - 65, by have := hc.1; have := hc.2; omega⟩
  rwa [show 65 + (c - 65) = c by have := hc.1; omega] at this
theorem kind_letter : ∀ d : Fin 16, kindC (65 + d.val) = oddN d.val := by decide +kernel
theorem lex_run (k : Bool) : ∀ (w : List Nat) (tok r : List Nat), (∀ c ∈ w, Letter c) → (r = [] ∨ ∃ r', r = 32 :: r') →
    lexRun (stOf k) tok (w ++ r) = (match w.dropWhile (fun c => kindC c == k), r with
      | c :: s, _ => (tok ++ w.takeWhile (fun c => kindC c == k), false, [c], s ++ r)
      | [], [] => (tok ++ w.takeWhile (fun c => kindC c == k), true, [], [])
      | [], _ :: r' => (tok ++ w.takeWhile (fun c => kindC c == k), false, [], r'))
  | [], tok, r, _, hr => by
    rcases hr with rfl | ⟨r', rfl⟩
    · cases k <;> simp [stOf, lexRun]
    · cases k <;> simp [stOf, lexRun]
  | a :: w, tok, r, hw, hr => by
    have ha := hw a (.head _)
    have h32 : a ≠ 32 := by have := ha.1; omega
    have ih := lex_run k w (tok ++ [a]) r (fun c hc => hw c (.tail _ hc)) hr
    by_cases hk : kindC a = k
    · have hb : (kindC a == k) = true := by simpa using hk
      rw [List.dropWhile_cons_of_pos (by simpa using hk), List.takeWhile_cons_of_pos (by simpa using hk)]
      have step : lexRun (stOf k) tok (a :: w ++ r) = lexRun (stOf k) (tok ++ [a]) (w ++ r) := by
        subst hk
        unfold kindC stOf
        by_cases hp : a ∈ punctL
        · rw [decide_eq_true hp, if_pos rfl, List.cons_append, lexRun, if_neg h32, if_pos hp]
        · rw [decide_eq_false hp, if_neg (by decide), List.cons_append, lexRun, if_neg h32, if_neg hp]
      rw [step, ih]
      simp only [List.append_assoc, List.singleton_append]
    · rw [List.dropWhile_cons_of_neg (by simpa using hk), List.takeWhile_cons_of_neg (by simpa using hk)]
      dsimp only
      rw [List.append_nil]
      have hk' : kindC a = !k := by cases h : kindC a <;> cases k <;> simp_all
      unfold kindC at hk'
      cases k
      · have hp : a ∈ punctL := by simpa using hk'
        show lexRun 1 tok (a :: (w ++ r)) = _
        rw [lexRun, if_neg h32, if_pos hp]
      · have hp : ¬ a ∈ punctL := by simpa using hk'
        show lexRun 2 tok (a :: (w ++ r)) = _
        rw [lexRun, if_neg h32, if_neg hp]
theorem runsC_cons (a : Nat) (w : List Nat) : runsC (a :: w) = (a :: w.takeWhile fun c => kindC c == kindC a) :: runsC (w.dropWhile fun c => kindC c == kindC a) := by
  match w with
  | [] => rfl
  | b :: w =>
    have ih := runsC_cons b w
    by_cases hk : kindC b = kindC a
    · rw [List.dropWhile_cons_of_pos (by simpa using hk), List.takeWhile_cons_of_pos (by simpa using hk)]
      rw [runsC, ih]
      dsimp only
      rw [if_pos hk.symm, hk]
    · rw [List.dropWhile_cons_of_neg (by simpa using hk), List.takeWhile_cons_of_neg (by simpa using hk)]
      rw [runsC, ih]
      dsimp only
      rw [if_neg (fun q => hk q.symm)]
theorem toks_space {r : List Nat} {ts : List (List Nat)} (h : Toks 0 r ts) : Toks 0 (32 :: r) ts := by
  have e : lexRun 0 [] (32 :: r) = lexRun 0 [] r := by rw [lexRun, if_pos rfl]
  cases h with
  | done h => exact .done (e.trans h)
  | more h1 h2 h3 => exact .more h1 (e.trans h2) h3
theorem toks_word : ∀ (n : Nat) (w r : List Nat) (ts : List (List Nat)), w.length ≤ n → (∀ c ∈ w, Letter c) → ((r = [] ∧ ts = []) ∨ ∃ r', r = 32 :: r' ∧ Toks 0 r' ts) → Toks 0 (w ++ r) (runsC w ++ ts)
  | n, [], r, ts, _, _, h => by
    rcases h with ⟨rfl, rfl⟩ | ⟨r', rfl, h⟩
    · exact .done (p := []) (r := []) rfl
    · exact toks_space h
  | 0, a :: w, r, ts, hn, _, _ => by simp at hn
  | n + 1, a :: w, r, ts, hn, hw, h => by
    simp only [List.length_cons] at hn
    have ha := hw a (.head _)
    have h32 : a ≠ 32 := by have := ha.1; omega
    have step : lexRun 0 [] (a :: w ++ r) = lexRun (stOf (kindC a)) [a] (w ++ r) := by
      unfold kindC stOf
      by_cases hp : a ∈ punctL
      · rw [decide_eq_true hp, if_pos rfl, List.cons_append, lexRun, if_neg h32, if_pos hp]
      · rw [decide_eq_false hp, if_neg (by decide), List.cons_append, lexRun, if_neg h32, if_neg hp]
    have hw' : ∀ c ∈ w, Letter c := fun c hc => hw c (.tail _ hc)
    have run := lex_run (kindC a) w [a] r hw' (by rcases h with ⟨rfl, _⟩ | ⟨r', rfl, _⟩; exact .inl rfl; exact .inr ⟨_, rfl⟩)
    rw [runsC_cons, List.cons_append]
    have hdl : (w.dropWhile fun c => kindC c == kindC a).length ≤ w.length := (List.dropWhile_sublist _).length_le
    have hdm : ∀ c ∈ (w.dropWhile fun c => kindC c == kindC a), Letter c := fun c hc => hw' c ((List.dropWhile_sublist _).subset hc)
    cases hd : (w.dropWhile fun c => kindC c == kindC a) with
    | cons c s =>
      rw [hd] at run hdl hdm
      dsimp only at run
      refine .more (by simp) (step.trans run) ?_
      exact toks_word n (c :: s) r ts (by omega) hdm h
    | nil =>
      rw [hd] at run
      have e0 : ∀ q : List Nat, [q] ++ ts = q :: ts := fun _ => rfl
      rw [show runsC [] = [] from rfl, e0]
      rcases h with ⟨rfl, rfl⟩ | ⟨r', rfl, h⟩
      · dsimp only at run
        refine .more (by simp) (step.trans run) ?_
        exact .done (p := []) (r := []) rfl
      · dsimp only at run
        refine .more (by simp) (step.trans run) ?_
        exact h
noncomputable def lineOf : List (List Nat) → List Nat
  | [] => []
  | [w] => w
  | w :: v :: r => w ++ 32 :: 120 :: 32 :: lineOf (v :: r)
noncomputable def tsOf : List (List Nat) → List (List Nat)
  | [] => []
  | [w] => runsC w
  | w :: v :: r => runsC w ++ [120] :: tsOf (v :: r)
theorem toks_line : ∀ ws : List (List Nat), (∀ w ∈ ws, ∀ c ∈ w, Letter c) → Toks 0 (lineOf ws) (tsOf ws)
  | [], _ => .done (p := []) (r := []) rfl
  | [w], h => by
    have := toks_word w.length w [] [] (Nat.le_refl _) (h w (.head _)) (.inl ⟨rfl, rfl⟩)
    rwa [List.append_nil, List.append_nil] at this
  | w :: v :: r, h => by
    have ih := toks_line (v :: r) (fun x hx => h x (.tail _ hx))
    refine toks_word w.length w _ _ (Nat.le_refl _) (h w (.head _)) (.inr ⟨_, rfl, ?_⟩)
    refine .more (by simp) (e := false) (p := []) (r := lineOf (v :: r)) ?_ ih
    rw [lexRun, if_neg (by decide), if_neg (by decide +kernel), lexRun, if_pos rfl]
theorem runsC_mem : ∀ (w : List Nat) (x : List Nat), x ∈ runsC w → ∀ c ∈ x, c ∈ w
  | [], x, h => by cases h
  | a :: w, x, h => by
    have ih := runsC_mem w
    rw [runsC] at h
    revert h ih
    generalize runsC w = q
    intro h ih c hc
    match q, h with
    | [], h => simp at h; subst h; simp at hc; subst hc; exact .head _
    | [] :: rest, h =>
      rcases List.mem_cons.mp h with rfl | h
      · simp at hc; subst hc; exact .head _
      · exact .tail _ (ih x (.tail _ h) c hc)
    | (p :: t) :: rest, h =>
      dsimp only at h
      split at h
      · rcases List.mem_cons.mp h with rfl | h
        · rcases List.mem_cons.mp hc with rfl | hc
          · exact .head _
          · exact .tail _ (ih _ (.head _) c hc)
        · exact .tail _ (ih x (.tail _ h) c hc)
      · rcases List.mem_cons.mp h with rfl | h
        · simp at hc; subst hc; exact .head _
        · exact .tail _ (ih x h c hc)
theorem rowsOf_run (w : List Nat) (hw : ∀ c ∈ w, Letter c) : ∀ (rs : List (List Nat)) (ts : List (List Nat)) (front : List (List (List Nat))) (last : List (List Nat)), (∀ x ∈ rs, x ∈ runsC w) →
    rowsOf (rs ++ ts) front last = rowsOf ts front (last ++ rs)
  | [], ts, front, last, _ => by rw [List.append_nil]; rfl
  | x :: rs, ts, front, last, h => by
    have hx : x ≠ [120] := by
      intro e
      have := hw 120 (runsC_mem w x (h x (.head _)) 120 (by rw [e]; exact .head _))
      exact absurd this.2 (by decide)
    rw [List.cons_append, rowsOf, if_neg hx, rowsOf_run w hw rs ts front _ (fun y hy => h y (.tail _ hy))]
    rw [List.append_assoc]; rfl
theorem rowsOf_line : ∀ (ws : List (List Nat)) (front : List (List (List Nat))), ws ≠ [] → (∀ w ∈ ws, ∀ c ∈ w, Letter c) → rowsOf (tsOf ws) front [] = front ++ ws.map runsC
  | [], _, h, _ => absurd rfl h
  | [w], front, _, h => by
    have := rowsOf_run w (h w (.head _)) (runsC w) [] front [] (fun x hx => hx)
    rw [List.append_nil] at this
    rw [tsOf, this]; rfl
  | w :: v :: r, front, _, h => by
    rw [tsOf, rowsOf_run w (h w (.head _)) (runsC w) _ front [] (fun x hx => hx), rowsOf, if_pos rfl, rowsOf_line (v :: r) _ (by simp) (fun x hx => h x (.tail _ hx))]
    simp
end
section
/-! the plain law, fifth part: paths, by their signs -/
section
open PySem.Builtin PySem.Builtin.Str PyProof.Rows PySem.StrLaws
theorem sx {x y : Str} (h : x.cps.toList = y.cps.toList) : x = y := by
  cases x; cases y
  simp only [Str.mk.injEq]
  exact Array.toList_inj.mp h
theorem app_l (x y : Str) : (x ++ y).cps.toList = x.cps.toList ++ y.cps.toList := by rw [Str.cps_append, Array.toList_append]
noncomputable def nameL (c : Bool) : List Nat := if c then [97, 98] else [97]
theorem name_l (c : Bool) : (nameS c).cps.toList = nameL c := by cases c <;> decide
theorem slash_l : slash.cps.toList = [47] := by decide
theorem slash_is : slash = ⟨#[47]⟩ := by decide
theorem nameL_no (c : Bool) : 47 ∉ nameL c := by cases c <;> decide
theorem nameL_last (c : Bool) : ∃ z, (nameL c).getLast? = some z ∧ z ≠ 47 := by
  cases c
  · exact ⟨97, by decide, by decide⟩
  · exact ⟨98, by decide, by decide⟩
noncomputable def jl (bs : List Bool) : List Nat := bs.flatMap fun c => 47 :: nameL c
theorem jl_snoc (bs : List Bool) (c : Bool) : jl (bs ++ [c]) = jl bs ++ 47 :: nameL c := by unfold jl; rw [List.flatMap_append]; simp
theorem jl_last (bs : List Bool) (c : Bool) : ∃ z, (jl (bs ++ [c])).getLast? = some z ∧ z ≠ 47 := by
  obtain ⟨z, hz, hn⟩ := nameL_last c
  refine ⟨z, ?_, hn⟩
  rw [jl_snoc, List.getLast?_append, List.getLast?_cons]
  rw [hz]; rfl
theorem ends_iff (x : Str) : Txt.endswith x slash = true ↔ x.cps.toList.getLast? = some 47 := by
  have h := subAt_one x 47 (x.length - 1)
  have hl : x.cps.toList.length = x.length := by rw [Array.length_toList]; rfl
  rw [List.getLast?_eq_getElem?, hl, ← h, slash_is]
  unfold Txt.endswith
  rw [Bool.and_eq_true, decide_eq_true_eq]
  show (0 + 1 ≤ x.length ∧ subAt x ⟨#[47]⟩ (x.length - 1) = true) ↔ (x.length - 1 + 1 ≤ x.length ∧ subAt x ⟨#[47]⟩ (x.length - 1) = true)
  constructor
  · exact fun ⟨a, b⟩ => ⟨by lia, b⟩
  · exact fun ⟨a, b⟩ => ⟨by lia, b⟩
theorem joinTo_app (bs : List Bool) (c : Bool) : joinTo (bs ++ [c]) = joinStep (joinTo bs) c := by
  unfold joinTo; rw [List.foldl_append]; rfl
theorem joinTo_l : ∀ rs : List Bool, rs ≠ [] → (joinTo rs.reverse).cps.toList = jl rs.reverse
  | [], h => absurd rfl h
  | [c], _ => by
    show (joinStep slash c).cps.toList = jl [c]
    unfold joinStep
    rw [if_pos ((ends_iff slash).mpr (by rw [slash_l]; rfl)), app_l, slash_l, name_l]
    unfold jl; simp
  | c :: d :: r, _ => by
    have ih := joinTo_l (d :: r) (by simp)
    rw [List.reverse_cons, joinTo_app, jl_snoc]
    unfold joinStep
    rw [if_neg ?_, app_l, app_l, slash_l, name_l, ih]
    · rfl
    · intro he
      have h1 := (ends_iff _).mp he
      rw [ih, List.reverse_cons] at h1
      obtain ⟨z, hz, hn⟩ := jl_last r.reverse d
      rw [hz] at h1
      exact hn (Option.some.inj h1)
theorem joinTo_ls {bs : List Bool} (h : bs ≠ []) : (joinTo bs).cps.toList = jl bs := by
  have := joinTo_l bs.reverse (by simpa using h)
  rwa [List.reverse_reverse] at this
theorem joinTo_snoc (bs : List Bool) (c : Bool) : (joinTo (bs ++ [c])).cps.toList = jl bs ++ 47 :: nameL c := by rw [joinTo_ls (by simp), jl_snoc]
theorem rfind_l {x : Str} {p q : List Nat} (h : x.cps.toList = p ++ 47 :: q) (hq : 47 ∉ q) : Txt.rfind x (Str.ofString "/") = (p.length : Int) := by
  have hs : Str.ofString "/" = ⟨#[47]⟩ := by decide
  have hat : x.cps.toList[p.length]? = some 47 := by rw [h]; simp
  unfold Txt.rfind
  rw [hs]
  rcases last_spec x ⟨#[47]⟩ with ⟨h1, h2⟩ | ⟨i, h1, h2, h3⟩
  · exact absurd ((subAt_one x 47 p.length).mpr hat) (h2 p.length)
  · rw [h1]
    have hi := (subAt_one x 47 i).mp h2
    rcases Nat.lt_trichotomy i p.length with h4 | h4 | h4
    · exact absurd ((subAt_one x 47 p.length).mpr hat) (h3 _ h4)
    · rw [h4]
    · rw [h, List.getElem?_append_right (by lia)] at hi
      obtain ⟨k, hk⟩ : ∃ k, i - p.length = k + 1 := ⟨i - p.length - 1, by lia⟩
      rw [hk, List.getElem?_cons_succ] at hi
      exact absurd (List.mem_of_getElem? hi) hq
theorem slice_from_l {x : Str} {n : Nat} (h : n ≤ x.cps.toList.length) : (Txt.slice x (some (n : Int)) none).cps.toList = x.cps.toList.drop n := by
  have hl : x.cps.toList.length = x.length := by rw [Array.length_toList]; rfl
  have e := beq_iff_eq.mp (slice_closes_fromL (x := x) (i := (n : Int)) (b := (x.length : Int)) (by lia) (by lia) rfl)
  rw [e]
  show (x.cps.toList.drop (n : Int).toNat).take ((x.length : Int) - n).toNat = _
  rw [Int.toNat_natCast, List.take_of_length_le (by rw [List.length_drop]; lia)]
theorem slice_to_l {x : Str} {n : Nat} (h : n ≤ x.cps.toList.length) : (Txt.slice x none (some (n : Int))).cps.toList = x.cps.toList.take n := by
  have hl : x.cps.toList.length = x.length := by rw [Array.length_toList]; rfl
  have e := beq_iff_eq.mp (slice_closes_toL (x := x) (j := (n : Int)) (by lia) (by lia))
  rw [e]
  show (x.cps.toList.drop 0).take ((n : Int) - 0).toNat = _
  rw [List.drop_zero, show ((n : Int) - 0).toNat = n by lia]
theorem mul_mem {n : Int} {z : Nat} (h : z ∈ (Txt.mul (Str.ofString "/") n).cps.toList) : z = 47 := by
  have hs : (Str.ofString "/").cps = #[47] := by decide
  have key : ∀ (l : List (Array Nat)) (acc : Array Nat), (∀ a ∈ l, ∀ z ∈ a.toList, z = 47) → (∀ z ∈ acc.toList, z = 47) → ∀ z ∈ (l.foldl (· ++ ·) acc).toList, z = 47 := by
    intro l
    induction l with
    | nil => exact fun acc _ h => h
    | cons a r ih =>
      intro acc h1 h2
      refine ih _ (fun b hb => h1 b (.tail _ hb)) fun z hz => ?_
      rw [Array.toList_append] at hz
      rcases List.mem_append.mp hz with hz | hz
      · exact h2 z hz
      · exact h1 a (.head _) z hz
  unfold Txt.mul at h
  split at h
  · cases h
  · split at h
    · rw [hs] at h; simpa using h
    · refine key _ _ (fun a ha z hz => ?_) (fun z hz => by cases hz) z h
      rw [(List.mem_replicate.mp ha).2, hs] at hz
      simpa using hz
theorem rstrip_l {x : Str} {p : List Nat} {z : Nat} (h : x.cps.toList = p ++ [47]) (hz : p.getLast? = some z) (hn : z ≠ 47) : (Txt.rstripChars x (Str.ofString "/")).cps.toList = p := by
  have hl : x.cps.toList.length = x.length := by rw [Array.length_toList]; rfl
  have hs : (Str.ofString "/").cps = #[47] := by decide
  have hp : p ≠ [] := by intro e; subst e; cases hz
  have hx : x.length = p.length + 1 := by rw [← hl, h]; simp
  have hd : ∀ k, x.cps.getD k 0 = x.cps.toList.getD k 0 := fun k => (getD_list x k).symm
  unfold Txt.rstripChars
  rw [PyProof.Rows.stripBy_eq, hs]
  have hlo : stripLo (#[47] : Array Nat).contains false x = 0 := by simp [stripLo]
  rw [hlo]
  obtain ⟨-, h2, h3, h4⟩ := hi_facts (#[47] : Array Nat).contains x 0 (Nat.zero_le _)
  generalize stripHi (#[47] : Array Nat).contains true x 0 = H at h2 h3 h4
  have hlast : x.cps.toList.getD (p.length - 1) 0 = z := by
    rw [h, List.getD_eq_getElem?_getD, List.getElem?_append_left (by have := List.length_pos_iff.mpr hp; lia)]
    rw [List.getLast?_eq_getElem?] at hz
    rw [hz]; rfl
  have hpl := List.length_pos_iff.mpr hp
  have hH : H = p.length := by
    rcases Nat.lt_trichotomy H p.length with a | a | a
    · have := h3 (p.length - 1) (by lia) (by lia)
      rw [hd, hlast] at this
      have : z = 47 := by simpa using this
      exact absurd this hn
    · exact a
    · have e : H = p.length + 1 := by lia
      rcases h4 with b | b
      · lia
      · rw [e, hd, h] at b
        simp at b
  rw [hH]
  unfold strSub
  show (x.cps.extract 0 p.length).toList = p
  rw [Array.toList_extract, h]
  simp
theorem up_is (bs : List Bool) (c : Bool) (_h : bs.length ≤ 6) : splitTl (joinTo (bs ++ [c])) = nameS c ∧ splitHd (joinTo (bs ++ [c])) = joinTo bs ∧ joinTo (bs ++ [c]) ≠ slash := by
  have hx := joinTo_snoc bs c
  have hr := rfind_l hx (nameL_no c)
  have hlen : (joinTo (bs ++ [c])).cps.toList.length = (jl bs).length + 1 + (nameL c).length := by rw [hx, List.length_append, List.length_cons]; lia
  have hnl : 0 < (nameL c).length := by cases c <;> decide
  have e1 : ((jl bs).length : Int) + 1 = (((jl bs).length + 1 : Nat) : Int) := by lia
  have hH0 : (splitH0 (joinTo (bs ++ [c]))).cps.toList = jl bs ++ [47] := by
    unfold splitH0
    rw [hr, e1, slice_to_l (by lia), hx, List.take_append, List.take_of_length_le (by lia), show (jl bs).length + 1 - (jl bs).length = 1 by lia]
    rfl
  have hH0l : (splitH0 (joinTo (bs ++ [c]))).length = (jl bs).length + 1 := by
    have : (splitH0 (joinTo (bs ++ [c]))).cps.toList.length = (splitH0 (joinTo (bs ++ [c]))).length := by rw [Array.length_toList]; rfl
    rw [← this, hH0, List.length_append]; rfl
  refine ⟨?_, ?_, ?_⟩
  · refine sx ?_
    unfold splitTl
    rw [hr, e1, slice_from_l (by lia), hx, name_l, List.drop_append, List.drop_of_length_le (by lia), show (jl bs).length + 1 - (jl bs).length = 1 by lia]
    rfl
  · unfold splitHd
    rw [if_neg (by rw [hH0l]; lia)]
    rcases List.eq_nil_or_concat bs with e | ⟨r, d, e⟩
    · subst e
      have hs0 : splitH0 (joinTo ([] ++ [c])) = slash := sx (by rw [hH0, slash_l]; rfl)
      rw [hs0, if_neg (by decide)]; rfl
    · rw [List.concat_eq_append] at e
      obtain ⟨z, hz, hn⟩ := jl_last r d
      rw [← e] at hz
      rw [if_pos ?_]
      · refine sx ?_
        rw [rstrip_l hH0 hz hn, joinTo_ls (by rw [e]; simp)]
      · rw [bne_iff_ne]
        intro q
        have hm : z ∈ (splitH0 (joinTo (bs ++ [c]))).cps.toList := by
          rw [hH0]
          exact List.mem_append.mpr (.inl (List.mem_of_getLast? hz))
        rw [q] at hm
        exact hn (mul_mem hm)
  · intro q
    have : (joinTo (bs ++ [c])).cps.toList.length = slash.cps.toList.length := by rw [q]
    rw [hlen, slash_l] at this
    simp only [List.length_cons, List.length_nil] at this
    lia
end
theorem joinStep_lenP (p : Str) (c : Bool) : (joinStep p c).length ≤ p.length + 3 := by
  have h1 : (Str.ofString "ab").length = 2 := by decide
  have h2 : (Str.ofString "a").length = 1 := by decide
  have h3 : slash.length = 1 := by decide
  unfold joinStep
  cases c <;> split <;> simp only [Str.length_append, nameS, if_true, Bool.false_eq_true, if_false, h1, h2, h3] <;> lia
theorem joinTo_lenP (bs : List Bool) : (joinTo bs).length ≤ 1 + 3 * bs.length := by
  have h3 : slash.length = 1 := by decide
  have key : ∀ (bs : List Bool) (p : Str), (bs.foldl joinStep p).length ≤ p.length + 3 * bs.length := by
    intro bs
    induction bs with
    | nil => intro p; simp
    | cons c r ih =>
      intro p
      have h1 := joinStep_lenP p c
      have h2 := ih (joinStep p c)
      simp only [List.foldl_cons, List.length_cons]
      lia
  have := key bs slash
  unfold joinTo
  lia
theorem climbs_rev : ∀ (rs : List Bool), rs.length ≤ 7 → Climbs (joinTo rs.reverse) rs
  | [], _ => .root
  | c :: r, h => by
    simp only [List.length_cons] at h
    have hu := up_is r.reverse c (by rw [List.length_reverse]; lia)
    have hl := joinTo_lenP (r.reverse ++ [c])
    rw [List.length_append, List.length_reverse] at hl
    rw [List.reverse_cons]
    refine .up hu.2.2 (by simp at hl; lia) hu.1 ?_
    rw [hu.2.1]
    exact climbs_rev r (by lia)
theorem climbs_join (bs : List Bool) (h : bs.length ≤ 7) : Climbs (joinTo bs) bs.reverse := by
  have := climbs_rev bs.reverse (by rw [List.length_reverse]; exact h)
  rwa [List.reverse_reverse] at this
end
section
/-! the plain law, sixth part: a number's word -/
noncomputable abbrev strC (r : List Nat) : Str := ⟨r.toArray⟩
noncomputable def sRuns (rs : List (List Nat)) : List Str := rs.map strC
theorem odd_strC (h : Nat) (t : List Nat) : oddStr (strC (h :: t)) = kindC h := by
  unfold oddStr kindC punctL strC
  simp
theorem len_strC (r : List Nat) : (strC r).length = r.length := by
  show r.toArray.size = _
  simp
theorem lens_strs (rs : List (List Nat)) : lens (sRuns rs) = lenC rs := by
  unfold lens sRuns lenC
  rw [List.map_map]
  exact List.map_congr_left fun r _ => by simp only [Function.comp]; rw [len_strC]
theorem lengthsOf_strs : ∀ (rs : List (List Nat)), (∀ x ∈ rs, x ≠ []) → lengthsOf (sRuns rs) = bump (lensB true rs)
  | [], _ => rfl
  | [] :: r, h => absurd rfl (h [] (.head _))
  | (a :: t) :: r, _ => by
    have e : sRuns ((a :: t) :: r) = strC (a :: t) :: sRuns r := rfl
    have e2 := lens_strs ((a :: t) :: r)
    rw [e] at e2 ⊢
    rw [lengthsOf, odd_strC, lensB, e2]
    by_cases h : kindC a = true
    · rw [if_pos h, if_pos h]
    · rw [if_neg h, if_neg h]
theorem bitsOf_cons (x : Str) (xs : List Str) : bitsOf (x :: xs) = List.replicate x.length (oddStr x) ++ bitsOf xs := rfl
theorem bitsOf_runs : ∀ w : List Nat, bitsOf (sRuns (runsC w)) = w.map kindC
  | [] => rfl
  | a :: r => by
    have ih := bitsOf_runs r
    have hne := runsC_ne r
    rw [runsC, List.map_cons, ← ih]
    revert hne
    generalize runsC r = q
    intro hne
    match q with
    | [] => 
      show bitsOf [strC [a]] = _
      rw [bitsOf_cons, odd_strC, len_strC]; rfl
    | [] :: rest => exact absurd rfl (hne [] (.head _))
    | (p :: t) :: rest =>
      dsimp only
      by_cases h : kindC a = kindC p
      · rw [if_pos h]
        show bitsOf (strC (a :: p :: t) :: sRuns rest) = kindC a :: bitsOf (strC (p :: t) :: sRuns rest)
        rw [bitsOf_cons, bitsOf_cons, odd_strC, odd_strC, len_strC, len_strC, h]
        rfl
      · rw [if_neg h]
        show bitsOf (strC [a] :: strC (p :: t) :: sRuns rest) = kindC a :: bitsOf (strC (p :: t) :: sRuns rest)
        rw [bitsOf_cons, odd_strC, len_strC]
        rfl
theorem digs_lt : ∀ (k n : Nat), ∀ d ∈ digs k n, d < 16
  | 0, n, d, h => by simp [digs] at h
  | k + 1, n, d, h => by
    rw [digs] at h
    split at h
    · cases h
    · rcases List.mem_append.mp h with h | h
      · exact digs_lt k _ d h
      · simp at h; lia
theorem digs_len : ∀ (k n : Nat), (digs k n).length ≤ k
  | 0, n => by simp [digs]
  | k + 1, n => by
    rw [digs]
    split
    · simp
    · have := digs_len k (n / 16)
      simp; lia
noncomputable def wordOf (n : Nat) : List Nat := (digs 7 n).map (65 + ·)
noncomputable def bits (n : Nat) : List Bool := bitsN (digs 7 n)
theorem bits_len (n : Nat) : (bits n).length ≤ 7 := by unfold bits bitsN; rw [List.length_map]; exact digs_len 7 n
theorem word_letter (n : Nat) : ∀ c ∈ wordOf n, Letter c := by
  intro c hc
  obtain ⟨d, hd, rfl⟩ := List.mem_map.mp hc
  have := digs_lt 7 n d hd
  exact ⟨by lia, by lia⟩
theorem word_kind (n : Nat) : (wordOf n).map kindC = bits n := by
  unfold wordOf bits bitsN
  rw [List.map_map]
  refine List.map_congr_left fun d hd => ?_
  have := kind_letter ⟨d, digs_lt 7 n d hd⟩
  exact this
noncomputable def runsN (n : Nat) : List Str := sRuns (runsC (wordOf n))
theorem runsN_bits (n : Nat) : bitsOf (runsN n) = bits n := by
  unfold runsN; rw [bitsOf_runs, word_kind]
theorem runsN_lengths (n : Nat) : lengthsOf (runsN n) = cfB true (bits n) := by
  unfold runsN
  rw [lengthsOf_strs _ (runsC_ne _), bump_lensB, word_kind]
theorem runsN_quots (n k : Nat) (hk : 16 ≤ k) : lengthsOf (runsN n) = quots k (vT (bits n)) (vB (bits n)) := by
  have h7 := bits_len n
  rw [runsN_lengths, quots_val (bits n) k (by lia)]
theorem runsC_sum : ∀ w : List Nat, (runsC w).length ≤ w.length ∧ ∀ x ∈ runsC w, x.length ≤ w.length
  | [] => ⟨Nat.le_refl _, fun _ h => nomatch h⟩
  | a :: r => by
    obtain ⟨h1, h2⟩ := runsC_sum r
    rw [runsC]
    revert h1 h2
    generalize runsC r = q
    intro h1 h2
    match q with
    | [] => exact ⟨by simp, fun x hx => by simp at hx; subst hx; simp⟩
    | [] :: rest =>
      refine ⟨by simp at h1 ⊢; lia, fun x hx => ?_⟩
      rcases List.mem_cons.mp hx with rfl | hx
      · simp
      · have := h2 x (.tail _ hx); simp; lia
    | (p :: t) :: rest =>
      dsimp only
      split
      · refine ⟨by simp at h1 ⊢; lia, fun x hx => ?_⟩
        rcases List.mem_cons.mp hx with rfl | hx
        · have := h2 _ (.head _); simp at this ⊢; lia
        · have := h2 x (.tail _ hx); simp; lia
      · refine ⟨by simp at h1 ⊢; lia, fun x hx => ?_⟩
        rcases List.mem_cons.mp hx with rfl | hx
        · simp
        · have := h2 x hx; simp; lia
theorem wordOf_len (n : Nat) : (wordOf n).length ≤ 7 := by unfold wordOf; rw [List.length_map]; exact digs_len 7 n
theorem runsN_ok (n : Nat) : (∀ x ∈ runsN n, 0 < x.length ∧ x.length < 100) ∧ (runsN n).length < 100 := by
  have h7 := wordOf_len n
  obtain ⟨h1, h2⟩ := runsC_sum (wordOf n)
  refine ⟨fun x hx => ?_, ?_⟩
  · obtain ⟨r, hr, rfl⟩ := List.mem_map.mp hx
    have := h2 r hr
    have h3 := runsC_ne _ r hr
    rw [len_strC]
    have : 0 < r.length := List.length_pos_iff.mpr h3
    lia
  · unfold runsN sRuns; rw [List.length_map]; lia
theorem frac_val (n : Nat) : (((fr4 (digs 7 n)).t + (fr4 (digs 7 n)).o : Nat) : Int) = vT (bits n) ∧ (((fr4 (digs 7 n)).b + (fr4 (digs 7 n)).u : Nat) : Int) = vB (bits n) := by
  obtain ⟨h1, h2⟩ := fr4_is (digs 7 n)
  rw [h1, h2]; exact ⟨rfl, rfl⟩
theorem v_lt (bs : List Bool) (h : bs.length ≤ 7) : 0 < vT bs ∧ vT bs < 1000 ∧ 0 < vB bs ∧ vB bs < 1000 := by
  have h1 := val_le bs
  have h2 := val_pos bs
  have : 2 ^ (bs.length + 1) ≤ 2 ^ 8 := Nat.pow_le_pow_right (by decide) (by lia)
  simp only [vT, vB]
  lia
theorem climb_val (bs : List Bool) : climbTo bs.reverse = (vT bs, vB bs) := climbTo_val bs
end
section
/-! the plain law, seventh part: a path's parts -/
noncomputable def keepN (l : List Str) : List Str := l.filter fun y => decide (0 < y.length)
noncomputable def splOf : List Bool → List Str
  | [] => [Str.empty, Str.empty]
  | c :: r => Str.empty :: (c :: r).map nameS
section
open PySem.Builtin PySem.Builtin.Str PyProof.Rows PySem.StrLaws
noncomputable def jn : List (List Nat) → List Nat
  | [] => []
  | [x] => x
  | x :: y :: r => x ++ 47 :: jn (y :: r)
theorem join_l : ∀ L : List Str, (Str.join slash L).cps.toList = jn (L.map fun x => x.cps.toList)
  | [] => rfl
  | [x] => rfl
  | x :: y :: r => by
    show (x ++ slash ++ Str.join slash (y :: r)).cps.toList = x.cps.toList ++ 47 :: jn ((y :: r).map fun x => x.cps.toList)
    rw [app_l, app_l, slash_l, join_l (y :: r)]
    simp
theorem first_sep : ∀ {a b X Y : List Nat}, 47 ∉ a → 47 ∉ b → a ++ 47 :: X = b ++ 47 :: Y → a = b ∧ X = Y
  | [], [], X, Y, _, _, h => by injection h with _ h; exact ⟨rfl, h⟩
  | [], c :: b, X, Y, _, h2, h => by
    injection h with h _
    exact absurd (h ▸ List.mem_cons_self) h2
  | c :: a, [], X, Y, h1, _, h => by
    injection h with h _
    exact absurd (h ▸ List.mem_cons_self) h1
  | c :: a, d :: b, X, Y, h1, h2, h => by
    injection h with h3 h
    obtain ⟨e1, e2⟩ := first_sep (fun q => h1 (.tail _ q)) (fun q => h2 (.tail _ q)) h
    exact ⟨by rw [h3, e1], e2⟩
theorem jn_inj : ∀ {A B : List (List Nat)}, A ≠ [] → B ≠ [] → (∀ a ∈ A, 47 ∉ a) → (∀ b ∈ B, 47 ∉ b) → jn A = jn B → A = B
  | [], _, h, _, _, _, _ => absurd rfl h
  | _ :: _, [], _, h, _, _, _ => absurd rfl h
  | [a], [b], _, _, _, _, h => by rw [show a = b from h]
  | [a], b :: c :: r, _, _, h1, _, h => by
    refine absurd ?_ (h1 a (.head _))
    rw [show a = b ++ 47 :: jn (c :: r) from h]
    exact List.mem_append.mpr (.inr (.head _))
  | a :: c :: r, [b], _, _, _, h2, h => by
    refine absurd ?_ (h2 b (.head _))
    rw [show b = a ++ 47 :: jn (c :: r) from h.symm]
    exact List.mem_append.mpr (.inr (.head _))
  | a :: c :: r, b :: d :: t, _, _, h1, h2, h => by
    obtain ⟨e1, e2⟩ := first_sep (h1 a (.head _)) (h2 b (.head _)) h
    rw [e1, jn_inj (by simp) (by simp) (fun x hx => h1 x (.tail _ hx)) (fun x hx => h2 x (.tail _ hx)) e2]
theorem jn_names : ∀ (c : Bool) (r : List Bool), jn ((c :: r).map nameL) = nameL c ++ jl r
  | c, [] => by simp [jn, jl]
  | c, d :: r => by
    show nameL c ++ 47 :: jn ((d :: r).map nameL) = _
    rw [jn_names d r]
    unfold jl; simp
theorem spl_join (b : List Bool) : Str.join slash (splOf b) = joinTo b := by
  cases b with
  | nil => decide
  | cons c r =>
    refine sx ?_
    rw [join_l, joinTo_ls (by simp)]
    show Str.empty.cps.toList ++ 47 :: jn (((c :: r).map nameS).map fun x => x.cps.toList) = jl (c :: r)
    rw [List.map_map, show ((fun x : Str => x.cps.toList) ∘ nameS) = nameL from funext name_l, jn_names]
    unfold jl; simp [Str.empty]
theorem spl_is (b : List Bool) (_h : b.length ≤ 7) : Txt.split (joinTo b) slash = splOf b := by
  have h1 := join_split (joinTo b) slash
  have h2 := (congrArg (fun y : Str => y.cps.toList) (h1.trans (spl_join b).symm))
  have h3 : jn ((Txt.split (joinTo b) slash).map fun x => x.cps.toList) = jn ((splOf b).map fun x => x.cps.toList) := by
    rw [← join_l, ← join_l]; exact h2
  have hp := PyProof.Rows.split_pos (joinTo b) slash
  have hf : ∀ y ∈ splOf b, 47 ∉ y.cps.toList := by
    intro y hy
    cases b with
    | nil => rcases List.mem_cons.mp hy with e | hy
             · rw [e]; decide
             · rw [List.mem_singleton.mp hy]; decide
    | cons c r =>
      rcases List.mem_cons.mp hy with e | hy
      · rw [e]; decide
      · obtain ⟨d, _, rfl⟩ := List.mem_map.mp hy
        rw [name_l]; exact nameL_no d
  have h4 := jn_inj (by intro q; have := congrArg List.length q; rw [List.length_map, List.length_nil] at this; lia) (by cases b <;> simp [splOf]) (fun a ha => by
    obtain ⟨y, hy, rfl⟩ := List.mem_map.mp ha
    rw [slash_is] at hy
    exact split_free (joinTo b) 47 y hy) (fun a ha => by
    obtain ⟨y, hy, rfl⟩ := List.mem_map.mp ha
    exact hf y hy) h3
  have inj : ∀ (A B : List Str), (A.map fun x => x.cps.toList) = (B.map fun x => x.cps.toList) → A = B := by
    intro A
    induction A with
    | nil => intro B h; cases B with | nil => rfl | cons b r => cases h
    | cons a r ih =>
      intro B h
      cases B with
      | nil => cases h
      | cons b t =>
        rw [List.map_cons, List.map_cons] at h
        injection h with h1 h2
        rw [sx h1, ih t h2]
  exact inj _ _ h4
theorem starts_is (b : List Bool) : Txt.startswith (joinTo b) slash = true := by
  have h0 : (joinTo b).cps.toList[0]? = some 47 := by
    cases b with
    | nil => decide
    | cons c r => rw [joinTo_ls (by simp)]; rfl
  have h := (subAt_one (joinTo b) 47 0).mpr h0
  unfold Txt.startswith
  rw [slash_is, Bool.and_eq_true, decide_eq_true_eq]
  exact h
end
theorem keep_names : ∀ b : List Bool, keepN (b.map nameS) = b.map nameS
  | [] => rfl
  | c :: r => by
    unfold keepN
    rw [List.map_cons, List.filter_cons, if_pos (by cases c <;> decide)]
    exact congrArg _ (keep_names r)
theorem word_names {b : List Bool} {y : Str} (h : y ∈ b.map nameS) : y = Str.ofString "a" ∨ y = Str.ofString "ab" := by
  obtain ⟨c, _, rfl⟩ := List.mem_map.mp h
  cases c
  · exact .inl rfl
  · exact .inr rfl
theorem sp_is (b : List Bool) (h : b.length ≤ 7) : keepN (Txt.split (joinTo b) slash) = b.map nameS ∧ (∀ y ∈ Txt.split (joinTo b) slash, y = Str.empty ∨ y = Str.ofString "a" ∨ y = Str.ofString "ab") ∧ (Txt.split (joinTo b) slash).length ≤ 9 := by
  rw [spl_is b h]
  cases b with
  | nil => exact ⟨by decide, fun y hy => .inl (by rcases List.mem_cons.mp hy with e | hy; exact e; exact List.mem_singleton.mp hy), by decide⟩
  | cons c r =>
    refine ⟨?_, fun y hy => ?_, ?_⟩
    · show keepN (Str.empty :: (c :: r).map nameS) = _
      unfold keepN
      rw [List.filter_cons, if_neg (by decide)]
      exact keep_names (c :: r)
    · rcases List.mem_cons.mp hy with e | hy
      · exact .inl e
      · exact .inr (word_names hy)
    · show ((Str.empty : Str) :: (c :: r).map nameS).length ≤ 9
      rw [List.length_cons, List.length_map]; lia
theorem keep_len (l : List Str) (i : Nat) : (keepN (l.take i)).length ≤ i := Nat.le_trans (List.length_filter_le _ _) (by rw [List.length_take]; exact Nat.min_le_left _ _)
theorem keep_add {l : List Str} {i : Nat} {y : Str} (h : l[i]? = some y) : keepN (l.take (i + 1)) = keepN (l.take i) ++ keepN [y] := by
  unfold keepN; rw [List.take_add_one, h, List.filter_append]; rfl
theorem jo_is (b : List Bool) (h : b.length ≤ 7) : slash ++ Txt.join slash (b.map nameS) = joinTo b := by
  cases b with
  | nil => decide
  | cons c r =>
    have e := StrLaws.join_split (joinTo (c :: r)) slash
    rw [spl_is _ h] at e
    rw [← e]
    show slash ++ Builtin.Str.glued slash ((c :: r).map nameS) = Str.empty ++ slash ++ Str.join slash ((c :: r).map nameS)
    rw [show Str.empty ++ slash = slash from by decide, StrLaws.glued_eq_join]
theorem names_sum (b : List Bool) (h : b.length ≤ 7) : ((b.map nameS).map (·.length)).sum + (b.map nameS).length * (Str.ofString "/").length ≤ 16777216 := by
  have h1 : (Str.ofString "/").length = 1 := by decide
  have h2 : ∀ l : List Bool, ((l.map nameS).map (·.length)).sum ≤ 2 * l.length := by
    intro l
    induction l with
    | nil => exact Nat.le_refl _
    | cons c r ih =>
      have : (nameS c).length ≤ 2 := by cases c <;> decide
      simp only [List.map_cons, List.sum_cons, List.length_cons]
      lia
  have := h2 b
  rw [h1, List.length_map]
  lia
end
section
structure SpD where
  a : Addr
  vs : List Value
  n : Nat
  b : List Bool
noncomputable abbrev SpD.obj (r : SpD) : Addr × Obj := (r.a, listOf r.vs.toArray r.n)
noncomputable abbrev SpD.ref (r : SpD) : Value := .ref r.a
noncomputable def spLed (rs : List SpD) : List (Addr × Obj) := rs.map SpD.obj
noncomputable def SpOk (rs : List SpD) : Prop := ∀ r ∈ rs, StrsAre r.vs (Txt.split (joinTo r.b) slash)
theorem SpOk.snoc {rs : List SpD} {r : SpD} (h : SpOk rs) (hr : StrsAre r.vs (Txt.split (joinTo r.b) slash)) : SpOk (rs ++ [r]) := by
  intro q hq
  rcases List.mem_append.mp hq with hq | hq
  · exact h q hq
  · rw [List.mem_singleton.mp hq]; exact hr
theorem sp_mem {rs : List SpD} {r : SpD} {base all : List (Addr × Obj)} (h1 : r.obj ∈ all) (h2 : ∀ p ∈ spLed rs ++ base, p ∈ all) : ∀ p ∈ spLed (rs ++ [r]) ++ base, p ∈ all := by
  intro p hp
  rcases List.mem_append.mp hp with hp | hp
  · unfold spLed at hp
    rw [List.map_append] at hp
    rcases List.mem_append.mp hp with hp | hp
    · exact h2 p (List.mem_append.mpr (.inl hp))
    · rw [List.mem_singleton.mp hp]; exact h1
  · exact h2 p (List.mem_append.mpr (.inr hp))
theorem off3_sp {rs : List SpD} {r : SpD} {base : List (Addr × Obj)} {I C D : Addr} (h : LCg.Off3 I C D (spLed rs ++ base)) (h1 : r.a ≠ I) (h2 : r.a ≠ C) (h3 : r.a ≠ D) : LCg.Off3 I C D (spLed (rs ++ [r]) ++ base) :=
  LCg.Off3.of fun p hp => by
    have hm := h.mem
    rcases List.mem_append.mp hp with hp | hp
    · unfold spLed at hp
      rw [List.map_append] at hp
      rcases List.mem_append.mp hp with hp | hp
      · exact hm p (List.mem_append.mpr (.inl hp))
      · rw [List.mem_singleton.mp hp]; exact ⟨h1, h2, h3⟩
    · exact hm p (List.mem_append.mpr (.inr hp))
section
variable {M : Model} {A : Around} {E : Value → Shared → Prop} {s : Shared} {h₀ : Heap} {L : Addr} {env : Env} {news : List (Addr × Obj)}
theorem name_cell {x : Str} {pos : Pos} {c : Addr} {o : Obj} {v : Value} {Q : Value → Shared → Prop} (N : News h₀ L s.heap news) (hc : env.cells.lookup x = some c) (hd : o.data = .cell (some v)) (hm : (c, o) ∈ news) (hk : env.scope.kind = .function) (hx : env.kindOf x = some .cell) (h : Q v s)
    (hb : (x == ("__debug__" : Str)) = false := by decide) : wpAny M A (eval (.Name x pos) env) Q E s := wpAny_Name (wpAny_loadName_cell hk hx hc ⟨o, N.get hm, hd⟩ h) hb
end
theorem assign_one {prog : Program} {w : World} {A : Around} {E : Value → Shared → Prop} {s : Shared} {env : Env} {a : Addr} {led : Bool} {x : Str} {px pos : Pos} {k : Nat} {Q : Unit → Shared → Prop} (hh : A.handled = none) (ho : s.heap.get? a = some (setObj1 led)) (hled : led = true ∨ w.params.followText "set-order" = true)
    (h : ∀ h' , (∀ b o, s.heap.get? b = some o → h'.get? b = some o) → wpAny (model prog w) A (assign (.Name x px) env (.bool true)) Q E { s with heap := h' }) :
    wpAny (model prog w) A (assign (.Tuple [.Name x px] k pos) env (.ref a)) Q E s := by
  rw [arm_assign_Tuple]
  refine wpAny_bind (wpAny_standAt ?_)
  show wpAny _ _ (unpack (.ref a) [(false, assign (.Name x px) env)]) _ _ _
  exact unpack_one hh ho hled h
noncomputable def NmOk (rs : List SpD) : Prop := ∀ r ∈ rs, StrsAre r.vs (r.b.map nameS)
theorem NmOk.snoc {rs : List SpD} {r : SpD} (h : NmOk rs) (hr : StrsAre r.vs (r.b.map nameS)) : NmOk (rs ++ [r]) := by
  intro q hq
  rcases List.mem_append.mp hq with hq | hq
  · exact h q hq
  · rw [List.mem_singleton.mp hq]; exact hr
end
section
section
open PyProof.Rows PySem.SeqAt
theorem first_lt (bs cs : List Bool) : ∀ (k i : Nat), min bs.length cs.length - i = k → i ≤ min bs.length cs.length →
    firstCmp (fun j => bs.getD j false == cs.getD j false) (fun j => !bs.getD j false && cs.getD j false) (decide (bs.length < cs.length)) k i = ltB (bs.drop i) (cs.drop i)
  | 0, i, hk, hi => by
    rw [firstCmp]
    rcases Nat.lt_or_ge i bs.length with h1 | h1
    · have h2 : cs.drop i = [] := List.drop_of_length_le (by omega)
      rw [h2, List.drop_eq_getElem_cons h1, ltB]
      exact decide_eq_false (by omega)
    · have h2 : bs.drop i = [] := List.drop_of_length_le h1
      rw [h2]
      rcases Nat.lt_or_ge i cs.length with h3 | h3
      · rw [List.drop_eq_getElem_cons h3, ltB]
        exact decide_eq_true (by omega)
      · rw [List.drop_of_length_le h3, ltB]
        exact decide_eq_false (by omega)
  | k + 1, i, hk, hi => by
    have h1 : i < bs.length := by omega
    have h2 : i < cs.length := by omega
    rw [firstCmp, first_lt bs cs k (i + 1) (by omega) (by omega), List.drop_eq_getElem_cons h1, List.drop_eq_getElem_cons h2, ltB]
    have e1 : bs.getD i false = bs[i] := by rw [List.getD_eq_getElem?_getD, List.getElem?_eq_getElem h1]; rfl
    have e2 : cs.getD i false = cs[i] := by rw [List.getD_eq_getElem?_getD, List.getElem?_eq_getElem h2]; rfl
    rw [e1, e2]
    by_cases e : bs[i] = cs[i]
    · rw [if_pos (by rw [e]; exact beq_self_eq_true _), if_pos e]
    · rw [if_neg (by simpa using e), if_neg e]
theorem first_gt (bs cs : List Bool) : ∀ (k i : Nat), min bs.length cs.length - i = k → i ≤ min bs.length cs.length →
    firstCmp (fun j => bs.getD j false == cs.getD j false) (fun j => bs.getD j false && !cs.getD j false) (decide (bs.length > cs.length)) k i = ltB (cs.drop i) (bs.drop i)
  | 0, i, hk, hi => by
    rw [firstCmp]
    rcases Nat.lt_or_ge i cs.length with h1 | h1
    · have h2 : bs.drop i = [] := List.drop_of_length_le (by omega)
      rw [h2, List.drop_eq_getElem_cons h1, ltB]
      exact decide_eq_false (by omega)
    · have h2 : cs.drop i = [] := List.drop_of_length_le h1
      rw [h2]
      rcases Nat.lt_or_ge i bs.length with h3 | h3
      · rw [List.drop_eq_getElem_cons h3, ltB]
        exact decide_eq_true (by omega)
      · rw [List.drop_of_length_le h3, ltB]
        exact decide_eq_false (by omega)
  | k + 1, i, hk, hi => by
    have h1 : i < bs.length := by omega
    have h2 : i < cs.length := by omega
    rw [firstCmp, first_gt bs cs k (i + 1) (by omega) (by omega), List.drop_eq_getElem_cons h1, List.drop_eq_getElem_cons h2, ltB]
    have e1 : bs.getD i false = bs[i] := by rw [List.getD_eq_getElem?_getD, List.getElem?_eq_getElem h1]; rfl
    have e2 : cs.getD i false = cs[i] := by rw [List.getD_eq_getElem?_getD, List.getElem?_eq_getElem h2]; rfl
    rw [e1, e2]
    by_cases e : bs[i] = cs[i]
    · rw [if_pos (by rw [e]; exact beq_self_eq_true _), if_pos e.symm]
    · rw [if_neg (by simpa using e), if_neg (fun q => e q.symm), Bool.and_comm]
theorem name_eq (b c : Bool) : (nameS b == nameS c) = (b == c) := by cases b <;> cases c <;> decide
theorem name_lt (b c : Bool) (h : (b == c) = false) : decide ((nameS b).cps.toList < (nameS c).cps.toList) = (!b && c) := by
  cases b <;> cases c
  · cases h
  · decide
  · decide
  · cases h
theorem names_at {vs : List Value} {bs : List Bool} (h : StrsAre vs (bs.map nameS)) (j : Nat) (hj : j < vs.toArray.size) : ∃ t, vs.toArray[j] = .str (nameS (bs.getD j false)) t := by
  have hj' : j < vs.length := by simpa using hj
  obtain ⟨y, t, hv, hy⟩ := h.item j _ (List.getElem?_eq_getElem hj')
  rw [List.getElem?_map] at hy
  cases hb : bs[j]? with
  | none => rw [hb] at hy; cases hy
  | some b =>
    rw [hb] at hy
    refine ⟨t, ?_⟩
    rw [List.getElem_toArray, hv, ← Option.some.inj hy, List.getD_eq_getElem?_getD, hb]; rfl
theorem words_lt (A : Around) (s : Shared) (x y : Addr) {vs us : List Value} {bs cs : List Bool} (hx : s.heap.IsList x vs.toArray) (hy : s.heap.IsList y us.toArray) (h1 : StrsAre vs (bs.map nameS)) (h2 : StrsAre us (cs.map nameS)) (hu : A.units < cLine) : OpAt .Lt A s (.ref x) (.ref y) (ltB bs cs) := by
  have l1 : vs.toArray.size = bs.length := by rw [List.size_toArray, h1.length, List.length_map]
  have l2 : us.toArray.size = cs.length := by rw [List.size_toArray, h2.length, List.length_map]
  have h := OpAt.lists_lt (e := fun j => bs.getD j false == cs.getD j false) (c := fun j => !bs.getD j false && cs.getD j false) hx hy hu
    (fun j a b => by
      obtain ⟨t, e1⟩ := names_at h1 j a
      obtain ⟨u, e2⟩ := names_at h2 j b
      rw [e1, e2, ← name_eq]
      exact EqAt.str_str _ t _ u)
    (fun j a b hne => by
      obtain ⟨t, e1⟩ := names_at h1 j a
      obtain ⟨u, e2⟩ := names_at h2 j b
      rw [e1, e2, ← name_lt _ _ hne]
      exact OpAt.str_lt _ _ t u)
  rw [l1, l2, first_lt bs cs (min bs.length cs.length) 0 rfl (Nat.zero_le _)] at h
  exact h
theorem words_gt (A : Around) (s : Shared) (x y : Addr) {vs us : List Value} {bs cs : List Bool} (hx : s.heap.IsList x vs.toArray) (hy : s.heap.IsList y us.toArray) (h1 : StrsAre vs (bs.map nameS)) (h2 : StrsAre us (cs.map nameS)) (hu : A.units < cLine) : OpAt .Gt A s (.ref x) (.ref y) (ltB cs bs) := by
  have l1 : vs.toArray.size = bs.length := by rw [List.size_toArray, h1.length, List.length_map]
  have l2 : us.toArray.size = cs.length := by rw [List.size_toArray, h2.length, List.length_map]
  have h := OpAt.lists_gt (e := fun j => bs.getD j false == cs.getD j false) (c := fun j => bs.getD j false && !cs.getD j false) hx hy hu
    (fun j a b => by
      obtain ⟨t, e1⟩ := names_at h1 j a
      obtain ⟨u, e2⟩ := names_at h2 j b
      rw [e1, e2, ← name_eq]
      exact EqAt.str_str _ t _ u)
    (fun j a b hne => by
      obtain ⟨t, e1⟩ := names_at h1 j a
      obtain ⟨u, e2⟩ := names_at h2 j b
      have hne' : (cs.getD j false == bs.getD j false) = false := by
        revert hne
        cases bs.getD j false <;> cases cs.getD j false <;> simp
      rw [e1, e2, Bool.and_comm, ← name_lt _ _ hne']
      exact OpAt.str_gt _ _ t u)
  rw [l1, l2, first_gt bs cs (min bs.length cs.length) 0 rfl (Nat.zero_le _)] at h
  exact h
variable {prog : Program} {w : World} {A : Around} {E : Value → Shared → Prop} {s : Shared} {h₀ : Heap} {L l : Addr} {m : Str → Option Value} {news : List (Addr × Obj)}
theorem sp_at {qs : List SpD} {i : Nat} {v : Value} (h : (qs.map SpD.ref)[i]? = some v) : ∃ q, qs[i]? = some q ∧ v = q.ref ∧ (qs.map SpD.b).getD i [] = q.b := by
  rw [List.getElem?_map] at h
  cases hq : qs[i]? with
  | none => rw [hq] at h; cases h
  | some q => rw [hq] at h; exact ⟨q, rfl, (Option.some.inj h).symm, by rw [List.getD_eq_getElem?_getD, List.getElem?_map, hq]; rfl⟩
theorem best_all {qs : List SpD} {bt : Nat → Nat → Bool} {f : List Bool → List Bool → Bool} (hbt : ∀ i j, bt i j = f ((qs.map SpD.b).getD i []) ((qs.map SpD.b).getD j [])) (tr : ∀ a b c, f b a = false → f c b = false → f c a = false) (as : ∀ a b, f a b = true → f b a = false) (ir : ∀ a, f a a = false)
    {v : Value} (hv : (qs.map SpD.ref)[argBest bt ((qs.map SpD.ref).length - 1)]? = some v) : ∃ q ∈ qs, v = q.ref ∧ ∀ x ∈ qs.map SpD.b, f x q.b = false := by
  obtain ⟨q, hq, e1, e2⟩ := sp_at hv
  refine ⟨q, List.mem_of_getElem? hq, e1, fun x hx => ?_⟩
  obtain ⟨j, hj, ej⟩ := List.getElem_of_mem hx
  rw [List.length_map] at hj
  have hb := bestOf_min bt (fun a b c h1 h2 => by rw [hbt] at *; exact tr _ _ _ h1 h2) (fun a b h1 => by rw [hbt] at *; exact as _ _ h1) (fun a => by rw [hbt]; exact ir _) ((qs.map SpD.ref).length - 1) j (by rw [List.length_map]; omega)
  rw [hbt, e2] at hb
  have e3 : (qs.map SpD.b).getD j [] = x := by rw [List.getD_eq_getElem?_getD, List.getElem?_eq_getElem (by rw [List.length_map]; exact hj), ej]; rfl
  rwa [e3] at hb
theorem min_words {Q : Value → Shared → Prop} {n : Nat} {qs : List SpD} (hh : A.handled = none) (F : Fr h₀ L s.heap m) (N : News h₀ L s.heap news) (hm : (l, listOf (qs.map SpD.ref).toArray n) ∈ news) (hs : ∀ q ∈ qs, q.obj ∈ news) (hok : NmOk qs) (hne : qs ≠ []) (hu : A.in1.units < cLine)
    (h : ∀ q h' tk, q ∈ qs → q.b = minL (qs.map SpD.b) → Fr h₀ L h' m → News h₀ L h' news → Q q.ref { s with heap := h', toks := tk }) :
    wpAny (model prog w) A (call (.builtin "min") [.ref l]) Q E s := by
  have hl : s.heap.IsList l (qs.map SpD.ref).toArray := ⟨_, (N _ hm).1, rfl, n, rfl⟩
  have lis : ∀ q ∈ qs, ∀ h' : Heap, (∀ b o, s.heap.get? b = some o → h'.get? b = some o) → h'.IsList q.a q.vs.toArray := fun q hq h' k => ⟨_, k _ _ (N _ (hs q hq)).1, rfl, q.n, rfl⟩
  refine min_refs hh (fun i j => ltB ((qs.map SpD.b).getD i []) ((qs.map SpD.b).getD j [])) hl (by rw [List.length_map]; exact List.length_pos_iff.mpr hne) ?_ ?_
  · intro i j vi vj s' Q' E' hi hj kp hQ
    obtain ⟨qi, hqi, rfl, e1⟩ := sp_at hi
    obtain ⟨qj, hqj, rfl, e2⟩ := sp_at hj
    dsimp only at hQ
    rw [e1, e2] at hQ
    exact words_lt _ s' qi.a qj.a (lis qi (List.mem_of_getElem? hqi) _ kp) (lis qj (List.mem_of_getElem? hqj) _ kp) (hok qi (List.mem_of_getElem? hqi)) (hok qj (List.mem_of_getElem? hqj)) hu _ _ _ _ hQ
  · intro v h' tk hv kp
    obtain ⟨q, hq, rfl, hb⟩ := best_all (f := ltB) (fun i j => rfl) leB_trans ltB_asym ltB_irr hv
    obtain ⟨m1, m2⟩ := minL_spec (l := qs.map SpD.b) (by simpa using hne)
    exact h q h' tk hq (ltB_total _ _ (m2 _ (List.mem_map.mpr ⟨q, hq, rfl⟩)) (hb _ m1)) (F.grownK kp) (N.grown kp)
theorem max_words {Q : Value → Shared → Prop} {n : Nat} {qs : List SpD} (hh : A.handled = none) (F : Fr h₀ L s.heap m) (N : News h₀ L s.heap news) (hm : (l, listOf (qs.map SpD.ref).toArray n) ∈ news) (hs : ∀ q ∈ qs, q.obj ∈ news) (hok : NmOk qs) (hne : qs ≠ []) (hu : A.in1.units < cLine)
    (h : ∀ q h' tk, q ∈ qs → q.b = maxL (qs.map SpD.b) → Fr h₀ L h' m → News h₀ L h' news → Q q.ref { s with heap := h', toks := tk }) :
    wpAny (model prog w) A (call (.builtin "max") [.ref l]) Q E s := by
  have hl : s.heap.IsList l (qs.map SpD.ref).toArray := ⟨_, (N _ hm).1, rfl, n, rfl⟩
  have lis : ∀ q ∈ qs, ∀ h' : Heap, (∀ b o, s.heap.get? b = some o → h'.get? b = some o) → h'.IsList q.a q.vs.toArray := fun q hq h' k => ⟨_, k _ _ (N _ (hs q hq)).1, rfl, q.n, rfl⟩
  refine max_refs hh (fun i j => ltB ((qs.map SpD.b).getD j []) ((qs.map SpD.b).getD i [])) hl (by rw [List.length_map]; exact List.length_pos_iff.mpr hne) ?_ ?_
  · intro i j vi vj s' Q' E' hi hj kp hQ
    obtain ⟨qi, hqi, rfl, e1⟩ := sp_at hi
    obtain ⟨qj, hqj, rfl, e2⟩ := sp_at hj
    dsimp only at hQ
    rw [e1, e2] at hQ
    exact words_gt _ s' qi.a qj.a (lis qi (List.mem_of_getElem? hqi) _ kp) (lis qj (List.mem_of_getElem? hqj) _ kp) (hok qi (List.mem_of_getElem? hqi)) (hok qj (List.mem_of_getElem? hqj)) hu _ _ _ _ hQ
  · intro v h' tk hv kp
    obtain ⟨q, hq, rfl, hb⟩ := best_all (f := fun a b => ltB b a) (fun i j => rfl) (fun a b c h1 h2 => leB_trans _ _ _ h2 h1) (fun a b h1 => ltB_asym _ _ h1) ltB_irr hv
    obtain ⟨m1, m2⟩ := maxL_spec (l := qs.map SpD.b) (by simpa using hne)
    exact h q h' tk hq (ltB_total _ _ (hb _ m1) (m2 _ (List.mem_map.mpr ⟨q, hq, rfl⟩))) (F.grownK kp) (N.grown kp)
end
end
section
section
open PyProof.Rows
variable {prog : Program} {w : World} {A : Around} {E : Value → Shared → Prop} {s : Shared} {env : Env} {h₀ : Heap} {L : Addr}
noncomputable def EPost (h₀ : Heap) (L : Addr) (s₁ : Shared) (own news : List (Addr × Obj)) (ps : List (Str × Value)) (P : Prop) (Q : Flow → Shared → Prop) (f : Flow) (s₂ : Shared) : Prop :=
  match f with
  | .ret v => Q (.ret v) s₂
  | .brk => Q .next s₂
  | _ => ∃ h' tk m', s₂ = { s₁ with heap := h', toks := tk } ∧ Fr h₀ L h' m' ∧ News h₀ L h' (own ++ news) ∧ (∀ p ∈ ps, m' p.1 = some p.2) ∧ P
theorem fo_enum {l : Addr} {vs : List Value} {nn : Nat} {xi xc : Str} {body : List Stmt} {m₀ : Str → Option Value} {news : List (Addr × Obj)} {Q : Flow → Shared → Prop} (ps : List (Str × Value)) (P : Nat → Prop) (hh : A.handled = none) (hL : env.locals = L)
    (F : Fr h₀ L s.heap m₀) (N : News h₀ L s.heap news) (hl : (l, listOf vs.toArray nn) ∈ news) (hk : ∀ p ∈ ps, m₀ p.1 = some p.2) (hp : P 0)
    (turn : ∀ i v t (u : Str → Option Value) h tk own, vs[i]? = some v → P i → Fr h₀ L h (fun y => if y = xc then some v else if y = xi then some (.int (i : Int) t) else kstB u ps y) → News h₀ L h (own ++ news) →
      wpAny (model prog w) A (execs body env) (EPost h₀ L { s with heap := h, toks := tk } own news ps (P (i + 1)) Q) E { s with heap := h, toks := tk })
    (done : ∀ (u : Str → Option Value) h tk, P vs.length → Fr h₀ L h (kstB u ps) → News h₀ L h news → Q .next { s with heap := h, toks := tk }) :
    wpAny (model prog w) A (call (.type "enumerate") [.ref l]) (fun xv s₁ => wpAny (model prog w) A (pyIter xv) (fun it s₂ => PairAt3 prog w A h₀ env xi xc body Q E it s₂) E s₁) E s := by
  subst hL
  have hls : s.heap.IsList l vs.toArray := ⟨_, (N _ hl).1, rfl, nn, rfl⟩
  have hlt : l < s.heap.objs.size := Heap.lt_size (N _ hl).1
  have hLs : env.locals < s.heap.objs.size := F.ns.lt
  have hab : h₀.objs.size ≤ env.locals := F.above
  refine call_enumerate_list hls fun h' he hit hsz hkp => ?_
  refine wpAny_pyIter_enum he ?_
  have F' : Fr h₀ env.locals h' m₀ := F.grownK hkp
  have N' : News h₀ env.locals h' news := N.grown hkp
  have hsz' : vs.toArray.size = vs.length := List.size_toArray ..
  have W := WalksT.enumerate (prog := prog) (w := w) hh (s.heap.objs.size + 1) s.heap.objs.size l (Nat.succ_ne_self _) (Nat.ne_of_lt (Nat.lt_succ_of_lt hlt)) (Nat.ne_of_lt hlt) vs.toArray
  rw [hsz'] at W
  have e0 : ∀ u : Str → Option Value, (∀ p ∈ ps, u p.1 = some p.2) → kstB u ps = u := fun u hu => funext fun y => kstB_eq hu fun _ => rfl
  refine ⟨_, _, _, vs.length, _, _, _, (fun i v0 v1 => ∃ t, v0 = .int (i : Int) t ∧ vs[i]? = some v1), m₀, news, (fun i m nw => nw = news ∧ (∀ p ∈ ps, m p.1 = some p.2) ∧ P i), rfl, W, ?_, ?_, ?_, ?_, ⟨⟨_, he⟩, hit, hls.at fun o e => hkp l o e⟩, F', N', ⟨rfl, hk, hp⟩, ?_, ?_⟩
  · rintro i vals ⟨t, x, hx, rfl⟩
    exact ⟨_, _, rfl, t, rfl, by simpa using hx⟩
  · intro hm
    rcases List.mem_cons.mp hm with e | hm
    · exact Nat.ne_of_lt (Nat.lt_succ_of_lt hLs) e
    · rcases List.mem_cons.mp hm with e | hm
      · exact Nat.ne_of_lt hLs e
      · exact (N _ hl).2.1 (List.mem_singleton.mp hm).symm
  · intro b hb
    rcases List.mem_cons.mp hb with e | hb
    · rw [e]; exact Heap.get?_none_of_le (Nat.le_trans hab (Nat.le_of_lt (Nat.lt_succ_of_lt hLs)))
    · rw [List.mem_singleton.mp hb]; exact Heap.get?_none_of_le (Nat.le_trans hab (Nat.le_of_lt hLs))
  · intro p hp hm
    have hq := Heap.lt_size (N p hp).1
    rcases List.mem_cons.mp hm with e | hm
    · exact Nat.ne_of_lt (Nat.lt_succ_of_lt hq) e
    · exact Nat.ne_of_lt hq (List.mem_singleton.mp hm)
  · rintro i v0 v1 m₁ news₁ s₁ own ⟨h, tk, rfl⟩ hi ⟨t, rfl, hv⟩ ⟨rfl, hkm, hP⟩ hmap hown F₁ N₁
    refine wpAny_mono (turn i v1 t m₁ h tk own hv hP (by rw [e0 m₁ hkm]; exact F₁) N₁) (fun f s₃ q => ?_) fun _ _ e => e
    cases f with
    | ret v => exact q
    | brk => exact q
    | next =>
      obtain ⟨h2, tk2, m2, rfl, F2, N2, k2, P2⟩ := q
      exact ⟨rfl, h2, tk2, m2, _, rfl, F2, N2, rfl, rfl, k2, P2⟩
    | cont =>
      obtain ⟨h2, tk2, m2, rfl, F2, N2, k2, P2⟩ := q
      exact ⟨rfl, h2, tk2, m2, _, rfl, F2, N2, rfl, rfl, k2, P2⟩
  · rintro h2 tk m' news' F2 N2 hmap ⟨rfl, hkm, hP⟩
    exact done m' h2 tk hP (by rw [e0 m' hkm]; exact F2) N2
theorem epost {own news : List (Addr × Obj)} {ps : List (Str × Value)} {P : Prop} {Q : Flow → Shared → Prop} {s₁ : Shared} {h' : Heap} {tk : Nat} {m' : Str → Option Value} (F : Fr h₀ L h' m') (N : News h₀ L h' (own ++ news)) (hk : ∀ p ∈ ps, m' p.1 = some p.2) (hp : P) : EPost h₀ L s₁ own news ps P Q .next { s₁ with heap := h', toks := tk } := ⟨h', tk, m', rfl, F, N, hk, hp⟩
noncomputable def CommonEnd (h₀ : Heap) (L : Addr) (s : Shared) (ps : List (Str × Value)) (keep : List (Addr × Obj)) (ns : List Str) (s' : Shared) : Prop :=
  ∃ a us k m' h' tk' nw, s' = { s with heap := h', toks := tk' } ∧ Fr h₀ L h' m' ∧ News h₀ L h' nw ∧ (a, listOf us.toArray k) ∈ nw ∧ (∀ p ∈ keep, p ∈ nw) ∧ StrsAre us ns ∧ m' (Str.ofString "common") = some (.ref a) ∧ ∀ p ∈ ps, m' p.1 = some p.2
theorem ltB_pre : ∀ (p r : List Bool), r ≠ [] → ltB p (p ++ r) = true
  | [], [], h => absurd rfl h
  | [], _ :: _, _ => rfl
  | a :: p, r, h => by rw [List.cons_append, ltB, if_pos rfl]; exact ltB_pre p r h
noncomputable def Agree (b1 b2 : List Bool) (i : Nat) : Prop := i ≤ b2.length ∧ b1.take i = b2.take i
theorem agree_len {b1 b2 : List Bool} {i : Nat} (h : Agree b1 b2 i) (hl : ltB b2 b1 = false) (hi : i < b1.length) : i < b2.length := by
  rcases Nat.lt_or_ge i b2.length with h' | h'
  · exact h'
  · have e : i = b2.length := Nat.le_antisymm h.1 h'
    have h2 := h.2
    rw [e, List.take_length] at h2
    have h3 : ltB b2 (b2 ++ b1.drop b2.length) = true := ltB_pre _ _ (by
      intro q
      have := congrArg List.length q
      rw [List.length_drop, List.length_nil] at this
      omega)
    have h4 : b2 ++ b1.drop b2.length = b1 := by
      conv => lhs; lhs; rw [← h2]
      exact List.take_append_drop _ _
    rw [h4, hl] at h3; cases h3
theorem agree_next {b1 b2 : List Bool} {i : Nat} {x : Bool} (h : Agree b1 b2 i) (h1 : b1[i]? = some x) (h2 : b2[i]? = some x) : Agree b1 b2 (i + 1) :=
  ⟨(List.getElem?_eq_some_iff.mp h2).1, by rw [List.take_add_one, List.take_add_one, h.2, h1, h2]⟩
theorem agree_diff : ∀ {b1 b2 : List Bool} {i : Nat} {x y : Bool}, b1.take i = b2.take i → b1[i]? = some x → b2[i]? = some y → x ≠ y → lcp b1 b2 = b1.take i
  | a :: r, b :: t, 0, x, y, _, h1, h2, hxy => by
    rw [List.getElem?_cons_zero] at h1 h2
    cases h1; cases h2
    rw [lcp, if_neg hxy]; rfl
  | a :: r, b :: t, i + 1, x, y, h, h1, h2, hxy => by
    rw [List.take_succ_cons, List.take_succ_cons] at h
    injection h with ha hr
    rw [List.getElem?_cons_succ] at h1 h2
    rw [lcp, if_pos ha, agree_diff hr h1 h2 hxy]; rfl
  | [], _, i, x, y, _, h1, _, _ => by cases h1
  | _ :: _, [], i, x, y, _, _, h2, _ => by cases h2
theorem agree_all : ∀ {b1 b2 : List Bool}, b1 = b2.take b1.length → lcp b1 b2 = b1
  | [], b2, _ => by cases b2 <;> rfl
  | a :: r, [], h => by cases h
  | a :: r, b :: t, h => by
    rw [List.length_cons, List.take_succ_cons] at h
    injection h with ha hr
    rw [lcp, if_pos ha, agree_all hr]
theorem agree_done {b1 b2 : List Bool} (h : Agree b1 b2 b1.length) : lcp b1 b2 = b1 := agree_all (by have := h.2; rwa [List.take_length] at this)
theorem min_max {l : List (List Bool)} (h : l ≠ []) : ltB (maxL l) (minL l) = false := (minL_spec h).2 _ (maxL_spec h).1
theorem fo_enumC {l : Addr} {vs : List Value} {nn : Nat} {xi xc : Str} {body : List Stmt} {m₀ : Str → Option Value} {news : List (Addr × Obj)} {Q : Flow → Shared → Prop} (ps : List (Str × Value)) (P : Nat → Prop) (ps2 : List (Str × Value)) (keep : List (Addr × Obj)) (ns : List Str) (hh : A.handled = none) (hL : env.locals = L)
    (F : Fr h₀ L s.heap m₀) (N : News h₀ L s.heap news) (hl : (l, listOf vs.toArray nn) ∈ news) (hk : ∀ p ∈ ps, m₀ p.1 = some p.2) (hp : P 0)
    (turn : ∀ i v t (u : Str → Option Value) h tk own, vs[i]? = some v → P i → Fr h₀ L h (fun y => if y = xc then some v else if y = xi then some (.int (i : Int) t) else kstB u ps y) → News h₀ L h (own ++ news) →
      wpAny (model prog w) A (execs body env) (EPost h₀ L { s with heap := h, toks := tk } own news ps (P (i + 1)) (fun f s' => f = .next ∧ CommonEnd h₀ L s ps2 keep ns s')) E { s with heap := h, toks := tk })
    (done : ∀ (u : Str → Option Value) h tk, P vs.length → Fr h₀ L h (kstB u ps) → News h₀ L h news → CommonEnd h₀ L s ps2 keep ns { s with heap := h, toks := tk })
    (rest : ∀ a us k m' h' tk' nw, Fr h₀ L h' m' → News h₀ L h' nw → (a, listOf us.toArray k) ∈ nw → (∀ p ∈ keep, p ∈ nw) → StrsAre us ns → m' (Str.ofString "common") = some (.ref a) → (∀ p ∈ ps2, m' p.1 = some p.2) → Q .next { s with heap := h', toks := tk' }) :
    wpAny (model prog w) A (call (.type "enumerate") [.ref l]) (fun xv s₁ => wpAny (model prog w) A (pyIter xv) (fun it s₂ => PairAt3 prog w A h₀ env xi xc body Q E it s₂) E s₁) E s := by
  have go : ∀ s', CommonEnd h₀ L s ps2 keep ns s' → Q .next s' := by
    rintro s' ⟨a, us, k, m', h', tk', nw, rfl, F', N', hm, hk', ha, hc, hp2⟩
    exact rest a us k m' h' tk' nw F' N' hm hk' ha hc hp2
  refine fo_enum ps P hh hL F N hl hk hp (fun i v t u h tk own hv hP F1 N1 => wpAny_mono (turn i v t u h tk own hv hP F1 N1) (fun f s3 q => ?_) fun _ _ e => e) fun u h tk hP F1 N1 => go _ (done u h tk hP F1 N1)
  cases f with
  | ret v => exact absurd q.1 (by simp)
  | brk => exact go _ q.2
  | next => exact q
  | cont => exact q
theorem cend {s : Shared} {ps : List (Str × Value)} {keep : List (Addr × Obj)} {ns : List Str} {h' : Heap} {tk : Nat} {m' : Str → Option Value} {nw : List (Addr × Obj)} (a : Addr) (us : List Value) (k : Nat) (F : Fr h₀ L h' m') (N : News h₀ L h' nw) (hm : (a, listOf us.toArray k) ∈ nw) (hk : ∀ p ∈ keep, p ∈ nw) (hu : StrsAre us ns) (hc : m' (Str.ofString "common") = some (.ref a)) (hp : ∀ p ∈ ps, m' p.1 = some p.2) :
    CommonEnd h₀ L s ps keep ns { s with heap := h', toks := tk } := ⟨a, us, k, m', h', tk, nw, rfl, F, N, hm, hk, hu, hc, hp⟩
end
section
open PyProof.Rows
theorem pick_take (vs : List Value) (i : Nat) : (slicePick vs.toArray none (some (i : Int)) none).toList = vs.take i := by
  have e : sliceBounds none (some (i : Int)) none vs.toArray.size = (((0 : Nat) : Int), ((min i vs.toArray.size : Nat) : Int), 1) := by
    simp only [sliceBounds, Option.getD_none, show (1 : Int) > 0 by decide, if_true, if_neg (show ¬ ((i : Int) < 0) by omega)]
    congr 1
    congr 1
    omega
  rw [kmk_pick_nat _ e]
  show (vs.drop 0).take (min i vs.toArray.size - 0) = _
  rw [List.drop_zero, Nat.sub_zero, List.size_toArray, kmk_take_min]
theorem ebrk {h₀ : Heap} {L : Addr} {s₁ : Shared} {own news : List (Addr × Obj)} {ps : List (Str × Value)} {P : Prop} {s₀ : Shared} {ps2 : List (Str × Value)} {keep : List (Addr × Obj)} {ns : List Str} {s₂ : Shared} (h : CommonEnd h₀ L s₀ ps2 keep ns s₂) :
    EPost h₀ L s₁ own news ps P (fun f s' => f = .next ∧ CommonEnd h₀ L s₀ ps2 keep ns s') .brk s₂ := ⟨rfl, h⟩
end
theorem data_name {o : Obj} {d : Data} (_h : o.data = d) : ∃ r : Obj, r = o := ⟨o, rfl⟩
end
theorem fillme : ∀ (w : World) (h : Heap), (hd.heap_39 w.params).In h → PySem.Challenge.rw_ik0085_01.Holds → True := by
  w_top off
  k_fill
  k_with "enter" => ((case kA => exact rfl); (case kF => exact rfl); (case kK => assumption); (case k1 => k_asm); (case k2 => k_asm); (case k3 => k_asm); (case k4 => k_asm); (case k5 => k_asm); (case k6 => k_is); (case k7 => k_is); (case k8 => ktr_room); (case k9 => exact BindsTo.of_eq rfl); (case c5 => decide); (case kB => exact locs rfl); (case c2 => exact rfl); (case c3 => exact rfl); (case c4 => exact rfl); k_whole; intro g' L' h' FG' F' N' B' X' T'; replace F' := frLook F'; (dsimp only [kstB, List.reverse, List.reverseAux] at F'); (try dsimp only); (try k_fold))
  intros; trivial
local macro_rules | `(tactic| walk_at $s:str) => `(tactic| k_extra $s)
local macro_rules | `(tactic| k_mem) => `(tactic| k_extra "k_mem")
local macro_rules | `(tactic| k_all) => `(tactic| k_extra "k_all")
local macro_rules | `(tactic| k_room) => `(tactic| k_extra "k_room")
local macro_rules | `(tactic| ktr_units) => `(tactic| k_extra "ktr_units")
local macro_rules | `(tactic| ktr_room) => `(tactic| k_extra "ktr_room")
local macro_rules | `(tactic| ke_room) => `(tactic| k_extra "ke_room")
local macro_rules | `(tactic| k_ne) => `(tactic| k_extra "k_ne")

theorem kw_base_1 : True := by
  k_with "exec While Name cons nil" => refine Hold.of ?_
  k_with "exec While Compare cons nil" => refine Hold.of ?_
  k_with "WPost" => refine Hold.of ?_
  k_with "FPost" => refine Hold.of ?_
  k_with "binaryOp FloorDiv int int" => (with_reducible refine floordiv_int ?z9kbe ?_ (Or.inl (PyProof.noPylong_small ?z9kbp)); (case z9kbe => omega); (case z9kbp => omega))
  k_with "binaryOp Mod int int" => (with_reducible refine mod_int' ?z9kbe ?_; (case z9kbe => omega))
  k_with "pyIter ref" => refine Hold.of ?_
  k_with "exec For Name Name cons nil" => (k_here; k_dflt (refine' forF ?z9kf ?z9kx ?z9kp ?_; (case z9kf => k_asm); (case z9kx => exact rfl); (case z9kp => exact rfl); k_whole))
  k_with "exec For Name Call cons nil" => (k_here; k_dflt (refine' forF ?z9kf ?z9kx ?z9kp ?_; (case z9kf => k_asm); (case z9kx => exact rfl); (case z9kp => exact rfl); k_whole))
  k_with "subscriptTail Name Constant ref int" => (k_here; (with_reducible show wpAny _ _ (subscriptTail _ _ (Value.ref _) (Value.int _ _)) _ _ _); k_dflt (refine' item_tupN ?z9kn ?z9km ?z9ka ?z9kb ?z9kc ?z9kd ?_; (case z9kn => k_asm); (case z9km => k_mem); (case z9ka => decide); (case z9kb => decide); (case z9kc => rfl); (case z9kd => rfl); k_whole))
  k_with "k_mem" => (with_reducible_and_instances assumption)
  k_with "exec Assign cons ListComp" => (k_here; k_dflt (refine LCg.Assign_ListComp_U (F₀ := by k_asm) (by rfl) (by with_unfolding_all rfl) (by with_unfolding_all rfl) (by decide) (by rfl) (by decide) (by rfl) (by rfl) (by rfl) ?_))
  k_with "CompSrc" => refine Hold.of ?_
  k_with "CompEnd" => refine Hold.of ?_
  k_with "truthy ref" => (k_here; (with_reducible show wpAny _ _ (truthy (Value.ref _)) _ _ _); k_dflt (refine' truthN ?z9ka ?z9kb ?z9kc ?_; (case z9ka => k_asm); (case z9kb => k_mem); (case z9kc => first | decide | (simp only [List.size_toArray]; omega)); k_whole))
  k_with "subscriptTail Name Constant ref int" => (k_here; (with_reducible show wpAny _ _ (subscriptTail _ _ (Value.ref _) (Value.int _ _)) _ _ _); k_dflt (refine' item_listN ?z9kn ?z9km ?z9ka ?z9kb ?z9kd ?_; (case z9kn => k_asm); (case z9km => k_mem); (case z9ka => decide); (case z9kb => decide); (case z9kd => rfl); k_whole))
  k_with "subscriptTail" => (k_here; (with_reducible show wpAny _ _ (subscriptTail _ _ (Value.str _ _) (Value.int _ _)) _ _ _); k_dflt (refine' item_str0 ?z9kc ?_; (case z9kc => assumption); k_whole))
  k_with "compareOp In str str" => (k_here; (with_reducible show wpAny _ _ (compareOp _ (Value.str (PySem.Str.mk (List.toArray [_])) _) (Value.str _ _)) _ _ _); (refine in_one ?_))
  k_with "compareOp NotIn str str" => (k_here; (with_reducible show wpAny _ _ (compareOp _ (Value.str (PySem.Str.mk (List.toArray [_])) _) (Value.str _ _)) _ _ _); (refine notin_one ?_))
  k_with "call builtin:issubclass" => (k_here; k_dflt (refine' issub_call (News.get ?z9kn ?z9km) ?_; (case z9kn => k_asm); (case z9km => k_mem); k_whole))
  k_with "k_all" => first | (refine' ne_of_app ?z9ka ?z9kb; (case z9ka => k_all); (case z9kb => k_all)) | (refine ne_of_all ?_; assumption) | assumption
  k_with "inplaceOp Add ref ref" => (k_here; k_dflt (refine' iadd_listN ?z9ka ?z9kb (News.get ?z9kc ?z9km) ?z9ku ?z9kz ?_; (case z9ka => k_asm); (case z9kb => k_asm); (case z9kc => k_asm); (case z9km => k_mem); (case z9ku => (intro n'; k_upd)); (case z9kz => first | decide | (simp; omega) | (simp only [List.size_toArray, List.length_flatten, List.map_replicate, List.sum_replicate_nat, List.length_cons, List.length_nil]; omega)); k_whole); intro h' n' F' N')
  k_with "binaryOp Mult ref int" => (k_here; k_dflt (refine' mul_listN ?z9ka ?z9kb ?z9kc ?z9kd ?z9ke ?z9kf ?z9kg ?_; (case z9ka => k_asm); (case z9kb => k_asm); (case z9kc => k_mem); (case z9kd => rfl); (case z9ke => omega); (case z9kf => omega); (case z9kg => first | decide | (simp only [List.size_toArray, List.length_cons, List.length_nil]; omega)); k_whole); intro h' F' N' l1; (try k_lt l1))
  k_with "subscriptTail Name Constant str int" => (k_here; (with_reducible show wpAny _ _ (subscriptTail _ _ (Value.str _ _) (Value.int _ _)) _ _ _); k_dflt (refine' item_str0 ?z9kc ?_; (case z9kc => assumption); k_whole))
  k_with "k_room" => ktr_room
  k_with "execs cons" => first | (with_reducible refine execs_one ?_; refine let_state ?_; intro _) | (with_reducible refine execs_gen ?_; intro _ _ _ _ _; refine let_state ?_; intro _) | (with_reducible refine post_genA ?_; intro _ _ _; first | (with_reducible refine execs_one ?_; refine let_state ?_; intro _) | (with_reducible refine execs_gen ?_; intro _ _ _ _ _; refine let_state ?_; intro _))
  k_with "Stm" => (with_reducible refine Stm.out ?_; with_reducible apply_assumption -exfalso -symm)
  k_with "ktr_units" => ((try simp (zetaDelta := true) only [units_under_kw, units_in1, units_deeper, Around.mark_units, units_caller]); (try dsimp only [ktrTop]); (try simp only [Nat.add_assoc]); first | exact Nat.le_of_ble_eq_true rfl | exact lt_room (by with_reducible assumption) rfl | exact lt_room0 (by with_reducible assumption))
  k_with "ktr_room" => ((try simp (zetaDelta := true) only [depth_under_make, depth_under_kw, depth_in1, depth_deeper, depth_caller]); (try dsimp only [ktrTop]); (try simp only [Nat.add_assoc]); first | exact Nat.le_of_ble_eq_true rfl | exact lt_room (by with_reducible assumption) rfl | exact lt_room0 (by with_reducible assumption))
  k_with "ke_room" => ((try simp (zetaDelta := true) only [units_under_kw, units_in1, units_deeper, Around.mark_units, units_caller]); (try dsimp only [ktrTop]); (try simp only [Nat.add_assoc]); first | exact Nat.le_of_ble_eq_true rfl | exact Nat.le_of_lt (lt_room (by with_reducible assumption) rfl) | exact lt_room (by with_reducible assumption) rfl)
  k_with "ltf" => first | with_reducible assumption | (with_reducible exact And.left (by with_reducible assumption)) | (with_reducible exact And.left (And.right (by with_reducible assumption))) | (with_reducible exact And.left (And.right (And.right (by with_reducible assumption)))) | (with_reducible exact And.left (And.right (And.right (And.right (by with_reducible assumption))))) | (with_reducible exact And.left (And.right (And.right (And.right (And.right (by with_reducible assumption)))))) | (with_reducible exact And.left (And.right (And.right (And.right (And.right (And.right (by with_reducible assumption))))))) | (with_reducible exact And.left (And.right (And.right (And.right (And.right (And.right (And.right (by with_reducible assumption)))))))) | (with_reducible exact And.left (And.right (And.right (And.right (And.right (And.right (And.right (And.right (by with_reducible assumption))))))))) | (with_reducible exact And.left (And.right (And.right (And.right (And.right (And.right (And.right (And.right (And.right (by with_reducible assumption)))))))))) | (with_reducible exact And.left (And.right (And.right (And.right (And.right (And.right (And.right (And.right (And.right (And.right (by with_reducible assumption))))))))))) | (with_reducible exact And.left (And.right (And.right (And.right (And.right (And.right (And.right (And.right (And.right (And.right (And.right (by with_reducible assumption)))))))))))) | (with_reducible exact And.left (And.right (And.right (And.right (And.right (And.right (And.right (And.right (And.right (And.right (And.right (And.right (by with_reducible assumption))))))))))))) | (with_reducible exact And.left (And.right (And.right (And.right (And.right (And.right (And.right (And.right (And.right (And.right (And.right (And.right (And.right (by with_reducible assumption)))))))))))))) | (with_reducible exact (And.right (by with_reducible assumption))) | (with_reducible exact (And.right (And.right (by with_reducible assumption)))) | (with_reducible exact (And.right (And.right (And.right (by with_reducible assumption))))) | (with_reducible exact (And.right (And.right (And.right (And.right (by with_reducible assumption)))))) | (with_reducible exact (And.right (And.right (And.right (And.right (And.right (by with_reducible assumption))))))) | (with_reducible exact (And.right (And.right (And.right (And.right (And.right (And.right (by with_reducible assumption)))))))) | (with_reducible exact (And.right (And.right (And.right (And.right (And.right (And.right (And.right (by with_reducible assumption))))))))) | (with_reducible exact (And.right (And.right (And.right (And.right (And.right (And.right (And.right (And.right (by with_reducible assumption)))))))))) | (with_reducible exact (And.right (And.right (And.right (And.right (And.right (And.right (And.right (And.right (And.right (by with_reducible assumption))))))))))) | (with_reducible exact (And.right (And.right (And.right (And.right (And.right (And.right (And.right (And.right (And.right (And.right (by with_reducible assumption)))))))))))) | (with_reducible exact (And.right (And.right (And.right (And.right (And.right (And.right (And.right (And.right (And.right (And.right (And.right (by with_reducible assumption))))))))))))) | (with_reducible exact (And.right (And.right (And.right (And.right (And.right (And.right (And.right (And.right (And.right (And.right (And.right (And.right (by with_reducible assumption))))))))))))))
  k_with "k_ne" => first | (with_reducible assumption) | (refine Nat.ne_of_gt ?_; k_extra "ltf") | (refine Nat.ne_of_lt ?_; k_extra "ltf") | (refine neN ?_; (try dsimp only); omega)
  k_with "lts" => first | (with_reducible assumption) | (refine' Nat.lt_trans ?z9a ?z9b; (case z9a => with_reducible assumption); (case z9b => k_extra "lts"))
  k_with "ord" => first | (with_reducible assumption) | k_extra "lts" | (refine Nat.ne_of_gt ?_; k_extra "lts") | (refine Nat.ne_of_lt ?_; k_extra "lts") | (refine Nat.le_of_lt ?_; k_extra "lts") | k_extra "ltf" | (refine Nat.ne_of_gt ?_; k_extra "ltf") | (refine Nat.ne_of_lt ?_; k_extra "ltf") | lia | omega
  k_with "K3" => ((case z9k1 => k_asm); (case z9k2 => k_asm); (case z9k3 => k_asm))
  k_with "K5" => ((case z9k1 => k_asm); (case z9k2 => k_asm); (case z9k3 => k_asm); (case z9k4 => k_asm); (case z9k5 => k_asm))
  trivial
section

structure QSt where
  t : Int
  b : Int
  t1 : Tok
  t2 : Tok
  vs : List Value
  n : Nat
  qs : List Int
  j : Nat

set_option maxHeartbeats 8000000 in
theorem quotients (w : World) (top bottom : Int) (t1 t2 : Tok) (news : List (Addr × Obj)) (h1 : 0 ≤ top) (h2 : 0 ≤ bottom) (h3 : top < 10000) (h4 : bottom < 10000) (k : Nat) (hj : bottom.toNat < k) :
    Claim w 879 5 20 news [.int top t1, .int bottom t2] (fun v news' => ∃ l vs n, v = .ref l ∧ news' = (l, listOf vs.toArray n) :: news ∧ IntsAre vs (quots k top bottom) ∧ ∀ p ∈ news, p.1 < l) := by
  intro mean mg mb dp un gd cn cs a ccd cl outer A₀ base h₀ L m s Q E B F X N T hk hdp hun hret
  refine wpAny_call ?_
  k_with "enter" => (refine' code_def (binds := [(Str.ofString "top", .int top t1), (Str.ofString "bottom", .int bottom t2)]) ?k1 ?k2 ?k3 ?k4 ?k5 ?kA ?kF ?kK ?k6 ?k7 ?k8 ?k9 ?kB ?_ ?c2 ?c3 ?c4 ?c5; (case kA => exact rfl); (case kF => exact rfl); (case kK => assumption); (case k1 => k_asm); (case k2 => k_asm); (case k3 => k_asm); (case k4 => k_asm); (case k5 => k_asm); (case k6 => k_is); (case k7 => k_is); (case k8 => ktr_room); (case k9 => exact BindsTo.of_eq rfl); (case c5 => decide); (case kB => exact locs rfl); (case c2 => exact rfl); (case c3 => exact rfl); (case c4 => exact rfl); k_whole; intro g' L' h' FG' F' N' B' X' T'; replace F' := frLook F'; (dsimp only [kstB, List.reverse, List.reverseAux] at F'); (try dsimp only); (try k_fold))
  k_dflt k_extra "enter"
  k_steps
  refine Hold.to ?_
  rename_i l' h1' hl h2' F' N' _ _ _ _ _ _
  refine whK (σ := QSt) (fun c => (l', listOf c.vs.toArray c.n) :: news) (fun c => [(Str.ofString "quotients", .ref l'), (Str.ofString "top", .int c.t c.t1), (Str.ofString "bottom", .int c.b c.t2)]) (fun c => IntsAre c.vs c.qs ∧ 0 ≤ c.t ∧ 0 ≤ c.b ∧ c.t < 10000 ∧ c.b < 10000 ∧ c.qs.length < 10000 - c.b ∧ c.qs ++ quots c.j c.t c.b = quots k top bottom ∧ c.b.toNat < c.j) (fun c => c.b.toNat) ⟨top, bottom, t1, t2, [], 0, [], k⟩ F' N' (by kst_all) ⟨.nil, h1, h2, h3, h4, by simp; lia, rfl, hj⟩ ?_
  rintro ⟨t, b, u1, u2, vs, n, qs, j⟩ K9 u h tk hK9 hP9 F1 N1
  obtain ⟨hq, ht, hb, hq3, hq4, hq5, hq6, hq7⟩ := hP9
  dsimp only [kstB] at F1 N1 hq ht hb hq3 hq4 hq5 hq6 hq7 ⊢
  try k_fold
  k_steps
  · rename_i hb0 _ _ _ _ _ _ _ _ _ _ _ 
    refine Hold.to ?_
    rename Fr _ _ _ _ => F9
    rename News _ _ _ _ => N9
    simp only [List.push_toArray] at N9
    obtain ⟨j, rfl⟩ : ∃ i, j = i + 1 := ⟨j - 1, by lia⟩
    have e := Int.fmod_nonneg_of_pos t (b := b) (by lia)
    have e' := Int.fmod_lt_of_pos t (b := b) (by lia)
    rw [quots, if_neg (by lia)] at hq6
    refine wend ⟨b, Int.fmod t b, _, _, vs ++ [.int (Int.fdiv t b) _], n + 1, qs ++ [Int.fdiv t b], j⟩ F9 N9 (by kst_in) (by kst_all) ⟨IntsAre.append hq (.cons _ _ .nil), hb, e, hq4, by dsimp only; lia, by simp; lia, by simpa using hq6, by dsimp only; lia⟩ (by dsimp only; lia)
  · rename Fr _ _ _ _ => F9
    rename News _ _ _ _ => N9
    have : b = 0 := by simp_all
    subst this
    have : quots j t 0 = [] := by cases j <;> simp [quots]
    rw [this, List.append_nil] at hq6
    exact hret _ _ _ _ ⟨l', vs, n, rfl, rfl, hq6 ▸ hq, hl⟩ F9 N9
end
section
structure FrSt where
  n : Nat
  t1 : Tok
  l : Addr
  vs : List Value
  fs : List Int
  e : Nat
  j : Nat
theorem digs_pos {k n : Nat} (h : n ≠ 0) : digs (k + 1) n = digs k (n / 16) ++ [n % 16] := by rw [digs, if_neg h]
theorem fdiv_nat (a b : Nat) : Int.fdiv (a : Int) (b : Int) = ((a / b : Nat) : Int) := by
  rw [Int.fdiv_eq_ediv_of_nonneg _ (Int.natCast_nonneg b)]; rfl
theorem fmod_nat (a b : Nat) : Int.fmod (a : Int) (b : Int) = ((a % b : Nat) : Int) := by
  rw [Int.fmod_eq_emod_of_nonneg _ (Int.natCast_nonneg b)]; rfl
structure FgSt where
  f : Fr4
  a : Tok
  b : Tok
  c : Tok
  d : Tok

set_option maxHeartbeats 8000000 in
theorem fraction (w : World) (n : Nat) (t1 : Tok) (news : List (Addr × Obj)) (h1 : n < 268435456) :
    Claim w 872 5 20 news [.int n t1] (fun v news' => ∃ l t2 t3, v = .ref l ∧ news' = (l, tupOf [.int ((fr4 (digs 7 n)).t + (fr4 (digs 7 n)).o : Nat) t2, .int ((fr4 (digs 7 n)).b + (fr4 (digs 7 n)).u : Nat) t3]) :: news ∧ ∀ p ∈ news, p.1 < l) := by
  intro mean mg mb dp un gd cn cs a ccd cl outer A₀ base h₀ L m s Q E B F X N T hk hdp hun hret
  refine wpAny_call ?_
  k_dflt (refine' code_def (binds := [(Str.ofString "number", .int n t1)]) ?k1 ?k2 ?k3 ?k4 ?k5 ?kA ?kF ?kK ?k6 ?k7 ?k8 ?k9 ?kB ?_ ?c2 ?c3 ?c4 ?c5; k_extra "enter")
  k_steps
  refine Hold.to ?_
  rename_i l' h1' hl h2' F' N' _ _ _ _ _ _
  refine whK (σ := FrSt) (fun c => (c.l, listOf c.vs.toArray c.e) :: news) (fun c => [(Str.ofString "figures", .ref c.l), (Str.ofString "number", .int c.n c.t1)]) (fun c => IntsAre c.vs c.fs ∧ c.n < 268435456 ∧ c.fs.length + c.j = 7 ∧ (digs c.j c.n).map Int.ofNat ++ c.fs = (digs 7 n).map Int.ofNat ∧ c.n < 16 ^ c.j ∧ ∀ p ∈ news, p.1 < c.l) (fun c => c.n) ⟨n, t1, l', [], [], 0, 7⟩ F' N' (by kst_all) ⟨.nil, h1, rfl, by simp, h1, hl⟩ ?_
  rintro ⟨n', u1, l1, vs, fs, e, j⟩ K9 u h tk hK9 hP9 F1 N1
  obtain ⟨hq, hn, hq3, hq4, hq5, hq6⟩ := hP9
  dsimp only [kstB] at F1 N1 hq hn hq3 hq4 hq5 hq6 ⊢
  try k_fold
  k_steps
  · refine Hold.to ?_
    rename IntsAre _ ([_] ++ _) => hI
    rename Fr _ _ _ _ => F9
    rename News _ _ _ _ => N9
    rename _ ∧ _ ∧ AllLt _ news => hlt
    have hn0 : n' ≠ 0 := by lia
    obtain ⟨j, rfl⟩ : ∃ i, j = i + 1 := ⟨j - 1, by have : j ≠ 0 := by { intro e; subst e; simp at hq5; lia }; lia⟩
    have e1 : Int.fdiv (n' : Int) 16 = ((n' / 16 : Nat) : Int) := fdiv_nat n' 16
    have e2 : Int.fmod (n' : Int) 16 = ((n' % 16 : Nat) : Int) := fmod_nat n' 16
    rw [e1] at F9
    rw [e2] at hI
    rw [digs_pos hn0] at hq4
    refine wend ⟨n' / 16, _, _, _, _, 0, j⟩ F9 N9 (by kst_in) (by kst_all) ⟨hI, by dsimp only; lia, by simp at hq3 ⊢; lia, by simpa using hq4, by dsimp only; rw [Nat.pow_succ] at hq5; lia, fun p hp => (kst_ltOf hlt.2.2) p hp⟩ (by dsimp only; lia)
  · rename Fr _ _ _ _ => F9
    rename News _ _ _ _ => N9
    have hn0 : n' = 0 := by lia
    subst hn0
    have hd0 : digs j 0 = [] := by cases j <;> simp [digs]
    rw [hd0, List.map_nil, List.nil_append] at hq4
    refine Hold.to ?_
    refine fo_listL (σ := FgSt) (fun c => (l1, listOf vs.toArray e) :: news) (fun c => [(Str.ofString "top", .int c.f.t c.a), (Str.ofString "bottom", .int c.f.b c.b), (Str.ofString "over", .int c.f.o c.c), (Str.ofString "under", .int c.f.u c.d)])
      (fun i c => c.f = fr4 ((digs 7 n).take i)) ⟨⟨0, 1, 1, 0⟩, _, _, _, _⟩ (vs := vs) (nn := e) rfl rfl (fun _ => .head _) F9 (kst_newsOf N9 (by kst_in)) (by kst_all) (by simp [fr4]) ?_ ?_
    · rintro i v ⟨⟨ft, fb, fo, fu⟩, ta, tb, tc, td⟩ u h tk I oI hv hP hoff F1 N1
      obtain ⟨d', td', rfl, hd⟩ := hq.at i v hv
      obtain ⟨d, hdd, rfl⟩ : ∃ d, (digs 7 n)[i]? = some d ∧ d' = (d : Int) := by
        rw [hq4, List.getElem?_map] at hd
        cases hx : (digs 7 n)[i]? with
        | none => rw [hx] at hd; cases hd
        | some d => rw [hx] at hd; exact ⟨d, rfl, (Option.some.inj hd).symm⟩
      have hst : fr4 ((digs 7 n).take (i + 1)) = (Fr4.mk ft fb fo fu).step d := by
        rw [List.take_add_one, hdd, fr4, List.foldl_append]
        show List.foldl Fr4.step (fr4 _) [d] = _
        rw [← hP]; rfl
      have hmod : Int.fmod (d : Int) 2 = ((d % 2 : Nat) : Int) := fmod_nat d 2
      dsimp only [kstB] at F1 N1 hP ⊢
      try k_fold
      k_steps
      · refine Hold.to ?_
        rename Fr _ _ _ _ => F9
        rename News _ _ _ _ => N9
        have hd1 : d % 2 ≠ 0 := by lia
        rw [Fr4.step, if_neg hd1] at hst
        exact fend ⟨⟨ft + fo, fb + fu, fo, fu⟩, _, _, _, _⟩ F9 N9 (by kst_in) (by simp) (by intro p hp; exact hoff p hp) (by kst_all) hst.symm
      · refine Hold.to ?_
        rename Fr _ _ _ _ => F9
        rename News _ _ _ _ => N9
        have hd1 : d % 2 = 0 := by simp_all; lia
        rw [Fr4.step, if_pos hd1] at hst
        exact fend ⟨⟨ft, fb, ft + fo, fb + fu⟩, _, _, _, _⟩ F9 N9 (by kst_in) (by simp) (by intro p hp; exact hoff p hp) (by kst_all) hst.symm
    · rintro ⟨⟨ft, fb, fo, fu⟩, ta, tb, tc, td⟩ u h tk hP F1 N1
      have hlen : vs.length = (digs 7 n).length := by rw [hq.length, hq4, List.length_map]
      rw [hlen, List.take_length] at hP
      dsimp only [kstB] at F1 N1 hP ⊢
      try k_fold
      k_steps
      rename Fr _ _ _ _ => F9
      rename News _ _ _ _ => N9
      rename _ ∧ AllLt _ news => hlt
      exact hret _ _ _ _ ⟨_, _, _, rfl, by rw [← hP], kst_ltOf hlt.2⟩ F9 (kst_newsOf N9 (by kst_in))
end
section
set_option maxHeartbeats 8000000 in
theorem simplest (w : World) (f g : Addr) (n1 d1 n2 d2 T B : Int) (t1 t2 t3 t4 : Tok) (news : List (Addr × Obj)) (hf : (f, tupOf [.int n1 t1, .int d1 t2]) ∈ news) (hg : (g, tupOf [.int n2 t3, .int d2 t4]) ∈ news)
    (b1 : 0 < n1 ∧ n1 < 1000) (b2 : 0 < d1 ∧ d1 < 1000) (b3 : 0 < n2 ∧ n2 < 1000) (b4 : 0 < d2 ∧ d2 < 1000) (hs : SimpleOf n1 d1 n2 d2 T B) :
    Claim w 886 5 20 news [.ref f, .ref g] (fun v news' => ∃ l t5 t6, v = .ref l ∧ news' = (l, tupOf [.int T t5, .int B t6]) :: news ∧ ∀ p ∈ news, p.1 < l) := by
  intro mean mg mb dp un gd cn cs a ccd cl outer A₀ base h₀ L m s Q E Bl F X N Tp hk hdp hun hret
  refine wpAny_call ?_
  k_dflt (refine' code_def (binds := [(Str.ofString "first", .ref f), (Str.ofString "second", .ref g)]) ?k1 ?k2 ?k3 ?k4 ?k5 ?kA ?kF ?kK ?k6 ?k7 ?k8 ?k9 ?kB ?_ ?c2 ?c3 ?c4 ?c5; k_extra "enter")
  k_steps
  · refine Hold.to ?_
    rename Fr _ _ _ _ => F9
    rename News _ _ _ _ => N9
    have hS : Simple n2 d2 n1 d1 T B := by rw [SimpleOf] at hs; rwa [if_pos (by assumption)] at hs
    refine whK (σ := Int × Tok) (fun _ => news) (fun c => [(Str.ofString "low", .ref g), (Str.ofString "high", .ref f), (Str.ofString "bottom", .int c.1 c.2)]) (fun c => 1 ≤ c.1 ∧ c.1 ≤ B ∧ c.1 < 1000) (fun c => (B - c.1).toNat) ⟨1, _⟩ F9 (kst_newsOf N9 (by kst_in)) (by kst_all) ⟨by dsimp only; lia, hS.pos, by dsimp only; lia⟩ ?_
    rintro ⟨q, tq⟩ K9 u h tk hK9 hP9 F1 N1
    obtain ⟨hq1, hq2, hq3⟩ := hP9
    dsimp only [kstB] at F1 N1 hq1 hq2 hq3 ⊢
    try k_fold
    k_steps
    · refine Hold.to ?_
      rename Fr _ _ _ _ => F9
      rename News _ _ _ _ => N9
      rename _ < _ => hc
      have hne : q ≠ B := by
        intro e; subst e
        have := hS.found
        unfold ceilAt at this
        lia
      refine wend ⟨q + 1, _⟩ F9 (kst_newsOf N9 (by kst_in)) (fun _ h => h) (by kst_all) ⟨by dsimp only; lia, by dsimp only; lia, by have := hS.small; dsimp only; lia⟩ (by dsimp only; lia)
    · rename Fr _ _ _ _ => F9
      rename News _ _ _ _ => N9
      rename ∀ p ∈ news, p.1 < _ => hlt
      rename ¬ (_ < _) => hc
      have he : q = B := by
        have := hS.none q hq1
        unfold ceilAt at this
        lia
      subst he
      have ht : -((-n2 * q).fdiv d2) = T := hS.top
      rw [ht] at N9
      exact hret _ _ _ _ ⟨_, _, _, rfl, rfl, hlt⟩ F9 (kst_newsOf N9 (by kst_in))
  · refine Hold.to ?_
    rename Fr _ _ _ _ => F9
    rename News _ _ _ _ => N9
    have hS : Simple n1 d1 n2 d2 T B := by rw [SimpleOf] at hs; rwa [if_neg (by assumption)] at hs
    refine whK (σ := Int × Tok) (fun _ => news) (fun c => [(Str.ofString "low", .ref f), (Str.ofString "high", .ref g), (Str.ofString "bottom", .int c.1 c.2)]) (fun c => 1 ≤ c.1 ∧ c.1 ≤ B ∧ c.1 < 1000) (fun c => (B - c.1).toNat) ⟨1, _⟩ F9 (kst_newsOf N9 (by kst_in)) (by kst_all) ⟨by dsimp only; lia, hS.pos, by dsimp only; lia⟩ ?_
    rintro ⟨q, tq⟩ K9 u h tk hK9 hP9 F1 N1
    obtain ⟨hq1, hq2, hq3⟩ := hP9
    dsimp only [kstB] at F1 N1 hq1 hq2 hq3 ⊢
    try k_fold
    k_steps
    · refine Hold.to ?_
      rename Fr _ _ _ _ => F9
      rename News _ _ _ _ => N9
      rename _ < _ => hc
      have hne : q ≠ B := by
        intro e; subst e
        have := hS.found
        unfold ceilAt at this
        lia
      refine wend ⟨q + 1, _⟩ F9 (kst_newsOf N9 (by kst_in)) (fun _ h => h) (by kst_all) ⟨by dsimp only; lia, by dsimp only; lia, by have := hS.small; dsimp only; lia⟩ (by dsimp only; lia)
    · rename Fr _ _ _ _ => F9
      rename News _ _ _ _ => N9
      rename ∀ p ∈ news, p.1 < _ => hlt
      rename ¬ (_ < _) => hc
      have he : q = B := by
        have := hS.none q hq1
        unfold ceilAt at this
        lia
      subst he
      have ht : -((-n1 * q).fdiv d1) = T := hS.top
      rw [ht] at N9
      exact hret _ _ _ _ ⟨_, _, _, rfl, rfl, hlt⟩ F9 (kst_newsOf N9 (by kst_in))
end
section
theorem SecLens.onLens : True := True.intro
open SecLens
theorem kw_Lens_1 : True := by
  k_with "@Lens" => guard_expr onLens = onLens
  k_with "subscriptTail" => (k_extra "@Lens"; (k_here; k_dflt (refine' item_str0 ?z9kc ?_; (case z9kc => assumption); k_whole)))
  trivial
theorem lengthsOf_pos {x : Str} {r : List Str} (h : oddStr x = true) : lengthsOf (x :: r) = bump (lens (x :: r)) := if_pos h
theorem lengthsOf_neg {x : Str} {r : List Str} (h : ¬ oddStr x = true) : lengthsOf (x :: r) = bump (0 :: lens (x :: r)) := if_neg h
theorem bump_of {l l' : List Int} (e : l = l') : List.take (l.length - 1) l ++ [l'.getD ((-1 + (l'.length : Int)).toNat) 0 + 1] = bump l' := by
  subst e
  unfold bump
  rw [show (-1 + (l.length : Int)).toNat = l.length - 1 by omega]
set_option maxHeartbeats 8000000 in
theorem lengths (w : World) (rl : Addr) (vs : List Value) (nn : Nat) (xs : List Str) (news : List (Addr × Obj)) (hr : (rl, listOf vs.toArray nn) ∈ news) (hx : StrsAre vs xs) (hne : ∀ x ∈ xs, 0 < x.length ∧ x.length < 100) (hl : xs.length < 100) :
    Claim w 858 5 20 news [.ref rl] (fun v news' => ∃ l ws n, v = .ref l ∧ news' = (l, listOf ws.toArray n) :: news ∧ IntsAre ws (lengthsOf xs) ∧ ∀ p ∈ news, p.1 < l) := by
  intro mean mg mb dp un gd cn cs a ccd cl outer A₀ base h₀ L m s Q E Bl F X N Tp hk hdp hun hret
  refine wpAny_call ?_
  k_dflt (refine' code_def (binds := [(Str.ofString "runs", .ref rl)]) ?k1 ?k2 ?k3 ?k4 ?k5 ?kA ?kF ?kK ?k6 ?k7 ?k8 ?k9 ?kB ?_ ?c2 ?c3 ?c4 ?c5; k_extra "enter")
  k_steps
  refine Hold.to ?_
  have S0 : LCg.SrcAt g' rl vs.toArray news := .inr ⟨_, hr, rfl, _, rfl⟩
  have hvl : vs.length = xs.length := hx.length
  refine LCg.CompSrc.ledger rfl F' N' hr (by rw [PySem.sizeLine_eq, List.size_toArray]; omega) ?_
  intro g9
  refine compInv (fun i ys nw => nw = news ∧ IntsAre ys ((xs.take i).map fun x => (x.length : Int))) ⟨rfl, .nil⟩ ?_ ?_
  · rintro i v ys nw I oI C oC D m2 h tk E' ⟨rfl, hy⟩ hi hv hC hx2 F1 N1 off ne
    obtain ⟨x, t, rfl, hxi⟩ : ∃ x t, v = .str x t ∧ xs[i]? = some x := by { obtain ⟨x, t, a, b⟩ := hx.item i v (by simpa using hv); exact ⟨x, t, a, b⟩ }
    have hxl := (hne x (List.mem_of_getElem? hxi)).2
    try k_fold
    k_steps
    refine Hold.to ?_
    rename Fr _ _ _ _ => F9
    rename News _ _ _ _ => N9
    refine LCg.CompEnd.intro F9 N9 nw (by kst_in) off S0 ⟨rfl, ?_⟩
    rw [List.take_add_one, hxi]
    simpa using IntsAre.append hy (.cons _ _ .nil)
  · rintro ys nw ⟨rfl, hy⟩
    rw [List.size_toArray, hvl, List.take_length] at hy
    intro D h tk F1 N1 off
    cases hx with
    | nil =>
      try k_fold
      k_steps
      · rename Fr _ _ _ _ => F9
        rename News _ _ _ _ => N9
        rename IntsAre _ _ => hI
        rename _ ∧ _ => hlt
        (repeat (obtain ⟨_, hlt⟩ := hlt))
        rw [bump_of (by rfl)] at hI
        exact hret _ _ _ _ ⟨_, _, _, rfl, rfl, hI, kst_ltOf hlt⟩ F9 (kst_newsOf N9 (by kst_in))
    | cons x t hx' =>
      rename_i vs xs
      obtain ⟨c, hc⟩ : ∃ c, x.cps[0]? = some c := by
        have h9 := (hne x (.head _)).1
        exact ⟨x.cps[0]'h9, Array.getElem?_eq_getElem h9⟩
      try k_fold
      k_steps
      · rename (_ = true) => hbad
        cases hbad
      · rename (c ∈ _) => hodd
        have ho : oddStr x = true := by unfold oddStr; rw [hc]; exact decide_eq_true hodd
        rename Fr _ _ _ _ => F9
        rename News _ _ _ _ => N9
        rename IntsAre _ _ => hI
        rename _ ∧ _ => hlt
        (repeat (obtain ⟨_, hlt⟩ := hlt))
        rw [bump_of (by rfl)] at hI
        exact hret _ _ _ _ ⟨_, _, _, rfl, rfl, (by rw [lengthsOf_pos ho]; exact hI), kst_ltOf hlt⟩ F9 (kst_newsOf N9 (by kst_in))
      · rename (¬ (c ∈ _)) => hodd
        have ho : ¬ oddStr x = true := by unfold oddStr; rw [hc]; simpa using hodd
        rename Fr _ _ _ _ => F9
        rename News _ _ _ _ => N9
        rename IntsAre _ _ => hI
        rename _ ∧ _ => hlt
        (repeat (obtain ⟨_, hlt⟩ := hlt))
        rw [bump_of (by rfl)] at hI
        exact hret _ _ _ _ ⟨_, _, _, rfl, rfl, (by rw [lengthsOf_neg ho]; exact hI), kst_ltOf hlt⟩ F9 (kst_newsOf N9 (by kst_in))
end
section
set_option maxHeartbeats 8000000 in
theorem fspath (w : World) (x : Str) (t : Tok) (news : List (Addr × Obj)) :
    Claim w 112 5 20 news [.str x t] (fun v news' => v = .str x t ∧ news' = news) := by
  intro mean mg mb dp un gd cn cs a ccd cl outer A₀ base h₀ L m s Q E Bl F X N Tp hk hdp hun hret
  refine wpAny_call ?_
  k_dflt (refine' code_def (binds := [(Str.ofString "path", .str x t)]) ?k1 ?k2 ?k3 ?k4 ?k5 ?kA ?kF ?kK ?k6 ?k7 ?k8 ?k9 ?kB ?_ ?c2 ?c3 ?c4 ?c5; k_extra "enter")
  k_steps
  rename Fr _ _ _ _ => F9
  rename News _ _ _ _ => N9

  exact hret _ _ _ _ ⟨rfl, rfl⟩ F9 (kst_newsOf N9 (by kst_in))

set_option maxHeartbeats 8000000 in
theorem getsep (w : World) (x : Str) (t : Tok) (news : List (Addr × Obj)) :
    Claim w 126 5 20 news [.str x t] (fun v news' => (∃ t', v = .str (Str.ofString "/") t') ∧ news' = news) := by
  intro mean mg mb dp un gd cn cs a ccd cl outer A₀ base h₀ L m s Q E Bl F X N Tp hk hdp hun hret
  refine wpAny_call ?_
  k_dflt (refine' code_def (binds := [(Str.ofString "path", .str x t)]) ?k1 ?k2 ?k3 ?k4 ?k5 ?kA ?kF ?kK ?k6 ?k7 ?k8 ?k9 ?kB ?_ ?c2 ?c3 ?c4 ?c5; k_extra "enter")
  k_steps
  rename Fr _ _ _ _ => F9
  rename News _ _ _ _ => N9
  exact hret _ _ _ _ ⟨⟨_, rfl⟩, rfl⟩ F9 (kst_newsOf N9 (by kst_in))
end
section
theorem SecSplit.onSplit : True := True.intro
open SecSplit
theorem kw_Split_1 : True := by
  k_with "@Split" => guard_expr onSplit = onSplit
  k_with "call ref" => (k_extra "@Split"; (k_here; (with_reducible show wpAny _ _ (call (Value.ref 112) _) _ _ _); k_dflt (refine' Claim.u0 (fspath _ _ _ _) ?z9k1 ?z9k2 ?z9k3 ?z9k4 ?z9k5 ?z9kK ?z9kd ?z9ku ?_; k_extra "K5"; (case z9kK => first | exact rfl | assumption); (case z9kd => ktr_room); (case z9ku => ktr_units)); intro h9 tk9 F9 N9; (try dsimp only); (try k_fold)))
  k_with "call ref" => (k_extra "@Split"; (k_here; (with_reducible show wpAny _ _ (call (Value.ref 126) _) _ _ _); k_dflt (refine' Claim.u0t (getsep _ _ _ _) ?z9k1 ?z9k2 ?z9k3 ?z9k4 ?z9k5 ?z9kK ?z9kd ?z9ku ?_; k_extra "K5"; (case z9kK => first | exact rfl | assumption); (case z9kd => ktr_room); (case z9ku => ktr_units)); intro t9 h9 tk9 F9 N9; (try dsimp only); (try k_fold)))
  trivial
set_option maxHeartbeats 8000000 in
theorem split (w : World) (x : Str) (t : Tok) (news : List (Addr × Obj)) (hx : x.length < 1000) :
    Claim w 140 6 30 news [.str x t] (fun v news' => ∃ l t1 t2, v = .ref l ∧ news' = (l, tupOf [.str (splitHd x) t1, .str (splitTl x) t2]) :: news ∧ ∀ p ∈ news, p.1 < l) := by
  intro mean mg mb dp un gd cn cs a ccd cl outer A₀ base h₀ L m s Q E Bl F X N Tp hk hdp hun hret
  refine wpAny_call ?_
  k_dflt (refine' code_def (binds := [(Str.ofString "p", .str x t)]) ?k1 ?k2 ?k3 ?k4 ?k5 ?kA ?kF ?kK ?k6 ?k7 ?k8 ?k9 ?kB ?_ ?c2 ?c3 ?c4 ?c5; k_extra "enter")
  k_steps
  · rename (¬ _ = 0) => c1
    rename (_ = true) => c2
    have hh : splitHd x = Txt.rstripChars (splitH0 x) (Str.ofString "/") := by unfold splitHd; unfold splitH0; rw [if_neg c1, if_pos c2]
    unfold splitH0 at hh
    rename Fr _ _ _ _ => F9
    rename News _ _ _ _ => N9
    rename _ ∧ _ => hlt
    (repeat (obtain ⟨_, hlt⟩ := hlt))
    rw [← hh] at N9
    exact hret _ _ _ _ ⟨_, _, _, rfl, rfl, kst_ltOf hlt⟩ F9 (kst_newsOf N9 (by kst_in))
  · rename (¬ _ = 0) => c1
    rename (_ = false) => c2
    have hh : splitHd x = splitH0 x := by unfold splitHd; unfold splitH0; rw [if_neg c1, if_neg (by rw [c2]; decide)]
    unfold splitH0 at hh
    rename Fr _ _ _ _ => F9
    rename News _ _ _ _ => N9
    rename _ ∧ _ => hlt
    (repeat (obtain ⟨_, hlt⟩ := hlt))
    rw [← hh] at N9
    exact hret _ _ _ _ ⟨_, _, _, rfl, rfl, kst_ltOf hlt⟩ F9 (kst_newsOf N9 (by kst_in))
  · rename (_ = 0) => c1
    have hh : splitHd x = splitH0 x := by unfold splitHd; unfold splitH0; rw [if_pos c1]
    unfold splitH0 at hh
    rename Fr _ _ _ _ => F9
    rename News _ _ _ _ => N9
    rename _ ∧ _ => hlt
    (repeat (obtain ⟨_, hlt⟩ := hlt))
    rw [← hh] at N9
    exact hret _ _ _ _ ⟨_, _, _, rfl, rfl, kst_ltOf hlt⟩ F9 (kst_newsOf N9 (by kst_in))
end
section
theorem SecClimb.onClimb : True := True.intro
open SecClimb
theorem kw_Climb_1 : True := by
  k_with "@Climb" => guard_expr onClimb = onClimb
  k_with "call ref" => (k_extra "@Climb"; (k_here; (with_reducible show wpAny _ _ (call (Value.ref 140) _) _ _ _); k_dflt (refine' Claim.u3 (split _ _ _ _ ?z9kx) ?z9k1 ?z9k2 ?z9k3 ?z9k4 ?z9k5 ?z9kK ?z9kd ?z9ku ?_; k_extra "K5"; (case z9kx => assumption); (case z9kK => first | exact rfl | assumption); (case z9kd => ktr_room); (case z9ku => ktr_units)); intro l9 ta9 tb9 h9 tk9 hlt9 F9 N9; k_extra "split"; (try dsimp only); (try k_fold)))
  trivial
structure CSt where
  p : Str
  tp : Tok
  t : Int
  b : Int
  t1 : Tok
  t2 : Tok
  r : List Bool
set_option maxHeartbeats 8000000 in
theorem climb (w : World) (x : Str) (r : List Bool) (t : Tok) (news : List (Addr × Obj)) (hc : Climbs x r) :
    Claim w 865 8 60 news [.str x t] (fun v news' => ∃ l t1 t2, v = .ref l ∧ news' = (l, tupOf [.int (climbTo r).1 t1, .int (climbTo r).2 t2]) :: news ∧ ∀ p ∈ news, p.1 < l) := by
  intro mean mg mb dp un gd cn cs a ccd cl outer A₀ base h₀ L m s Q E Bl F X N Tp hk hdp hun hret
  refine wpAny_call ?_
  k_dflt (refine' code_def (binds := [(Str.ofString "path", .str x t)]) ?k1 ?k2 ?k3 ?k4 ?k5 ?kA ?kF ?kK ?k6 ?k7 ?k8 ?k9 ?kB ?_ ?c2 ?c3 ?c4 ?c5; k_extra "enter")
  k_steps
  refine Hold.to ?_
  rename Fr _ _ _ _ => F9
  rename News _ _ _ _ => N9
  refine whK (σ := CSt) (fun _ => news) (fun c => [(Str.ofString "path", .str c.p c.tp), (Str.ofString "top", .int c.t c.t1), (Str.ofString "bottom", .int c.b c.t2)]) (fun c => Climbs c.p c.r ∧ c.r.foldl climbF (c.t, c.b) = climbTo r) (fun c => c.r.length) ⟨x, t, 1, 1, _, _, r⟩ F9 (kst_newsOf N9 (by kst_in)) (by kst_all) ⟨hc, rfl⟩ ?_
  rintro ⟨p, tp, tt, tb, u1, u2, r'⟩ K9 u h tk hK9 hP9 F1 N1
  obtain ⟨hq1, hq2⟩ := hP9
  dsimp only [kstB] at F1 N1 hq1 hq2 ⊢
  cases hq1 with
  | root =>
    try k_fold
    k_steps
    rename Fr _ _ _ _ => F9
    rename News _ _ _ _ => N9
    rename ∀ p ∈ news, p.1 < _ => hlt
    have e1 : tt = (climbTo r).1 := by rw [← hq2]; rfl
    have e2 : tb = (climbTo r).2 := by rw [← hq2]; rfl
    subst e1; subst e2
    exact hret _ _ _ _ ⟨_, _, _, rfl, rfl, hlt⟩ F9 (kst_newsOf N9 (by kst_in))
  | @up _ c r'' hp1 hpl hTl hup =>
    cases c with
    | true =>
      k_with "split" => (rename News _ _ _ _ => N9; rw [hTl] at N9)
      try k_fold
      k_steps
      · refine Hold.to ?_
        rename Fr _ _ _ _ => F9
        rename News _ _ _ _ => N9
        exact wend ⟨splitHd p, _, tt + tb, tb, _, _, r''⟩ F9 (kst_newsOf N9 (by kst_in)) (fun _ h => h) (by kst_all) ⟨hup, hq2⟩ (by dsimp only; simp)
      · rename ((_ != _) = false) => hbad
        exact absurd (by simpa using hbad) hp1
    | false =>
      k_with "split" => (rename News _ _ _ _ => N9; rw [hTl] at N9)
      try k_fold
      k_steps
      · refine Hold.to ?_
        rename Fr _ _ _ _ => F9
        rename News _ _ _ _ => N9
        exact wend ⟨splitHd p, _, tt, tb + tt, _, _, r''⟩ F9 (kst_newsOf N9 (by kst_in)) (fun _ h => h) (by kst_all) ⟨hup, hq2⟩ (by dsimp only; simp)
      · rename ((_ != _) = false) => hbad
        exact absurd (by simpa using hbad) hp1
end
section
theorem SecJoin.onJoin : True := True.intro
open SecJoin

theorem kw_Join_1 : True := by
  k_with "@Join" => guard_expr onJoin = onJoin
  k_with "call ref" => (k_extra "@Join"; (k_here; (with_reducible show wpAny _ _ (call (Value.ref 112) _) _ _ _); k_dflt (refine' Claim.u0 (fspath _ _ _ _) ?z9k1 ?z9k2 ?z9k3 ?z9k4 ?z9k5 ?z9kK ?z9kd ?z9ku ?_; k_extra "K5"; (case z9kK => first | exact rfl | assumption); (case z9kd => ktr_room); (case z9ku => ktr_units)); intro h9 tk9 F9 N9; (try dsimp only); (try k_fold)))
  k_with "call ref" => (k_extra "@Join"; (k_here; (with_reducible show wpAny _ _ (call (Value.ref 126) _) _ _ _); k_dflt (refine' Claim.u0t (getsep _ _ _ _) ?z9k1 ?z9k2 ?z9k3 ?z9k4 ?z9k5 ?z9kK ?z9kd ?z9ku ?_; k_extra "K5"; (case z9kK => first | exact rfl | assumption); (case z9kd => ktr_room); (case z9ku => ktr_units)); intro t9 h9 tk9 F9 N9; (try dsimp only); (try k_fold)))
  trivial
theorem joinStep_len (p : Str) (c : Bool) : p.length ≤ (joinStep p c).length ∧ (joinStep p c).length ≤ p.length + 3 := by
  have h1 : (Str.ofString "ab").length = 2 := by decide
  have h2 : (Str.ofString "a").length = 1 := by decide
  have h3 : slash.length = 1 := by decide
  unfold joinStep
  cases c <;> split <;> simp only [Str.length_append, nameS, if_true, Bool.false_eq_true, if_false, h1, h2, h3] <;> lia
theorem joinFold_len : ∀ (bs : List Bool) (p : Str), p.length ≤ (bs.foldl joinStep p).length ∧ (bs.foldl joinStep p).length ≤ p.length + 3 * bs.length
  | [], p => by simp
  | c :: r, p => by
    have h1 := joinStep_len p c
    have h2 := joinFold_len r (joinStep p c)
    simp only [List.foldl_cons, List.length_cons]
    lia
theorem joinTo_len (bs : List Bool) : 1 ≤ (joinTo bs).length ∧ (joinTo bs).length ≤ 1 + 3 * bs.length := by
  have := joinFold_len bs slash
  have h3 : slash.length = 1 := by decide
  unfold joinTo
  lia
set_option maxHeartbeats 8000000 in
theorem join (w : World) (t : Tok) (vs : List Value) (bs : List Bool) (news : List (Addr × Obj)) (hx : StrsAre vs (bs.map nameS)) (hl : vs.length ≤ 7) :
    Claim w 133 8 60 news (.str (Str.ofString "/") t :: vs) (fun v news' => (∃ t', v = .str (joinTo bs) t') ∧ news' = news) := by
  intro mean mg mb dp un gd cn cs a ccd cl outer A₀ base h₀ L m s Q E Bl F X N Tp hk hdp hun hret
  refine wpAny_call ?_
  k_dflt (refine' kp_rest (vs := vs) (g₁ := fun D => some [(Str.ofString "a", .str (Str.ofString "/") t), (Str.ofString "p", .ref D)]) (binds := fun D => [(Str.ofString "a", .str (Str.ofString "/") t), (Str.ofString "p", .ref D)]) ?k1 ?k2 ?k3 ?k4 ?k5 ?kA ?kF ?kK ?k6 ?k7 ?k8 ?kV ?kP ?kG ?kB ?_ ?c2 ?c3 ?c4 ?c5; (case kA => exact rfl); (case kF => exact rfl); (case kK => assumption); (case k1 => k_asm); (case k2 => k_asm); (case k3 => k_asm); (case k4 => k_asm); (case k5 => k_asm); (case k6 => k_is); (case k7 => k_is); (case k8 => ktr_room); (case kV => rfl); (case kP => (clear hx hret; match vs, hl with | [], _ => rfl | [_], _ => rfl | [_, _], _ => rfl | [_, _, _], _ => rfl | [_, _, _, _], _ => rfl | [_, _, _, _, _], _ => rfl | [_, _, _, _, _, _], _ => rfl | [_, _, _, _, _, _, _], _ => rfl | _ :: _ :: _ :: _ :: _ :: _ :: _ :: _ :: _, h => exact absurd h (by simp))); (case kG => exact fun _ => rfl); (case kB => exact fun _ => locs rfl); (case c5 => decide); (case c2 => exact rfl); (case c3 => exact rfl); (case c4 => exact rfl); k_whole; intro D' g' L' h' l1 FG' F' N' B' X' T')
  replace F' := frLook F'
  dsimp only [kstB, List.reverse, List.reverseAux] at F'
  try k_fold
  k_steps
  refine Hold.to ?_
  rename Fr _ _ _ _ => F9
  rename News _ _ _ _ => N9
  refine fo_tupL (L := L') (σ := Str × Tok × Tok) (fun _ => (D', tupOf vs) :: news) (fun c => [(Str.ofString "path", .str c.1 c.2.1), (Str.ofString "sep", .str (Str.ofString "/") c.2.2)])
    (fun i c => c.1 = joinTo (bs.take i)) ⟨slash, t, _⟩ (vs := vs) rfl rfl (fun _ => .head _) F9 (kst_newsOf N9 (by kst_in)) (by kst_all) rfl ?_ ?_
  · rintro i v ⟨p, tp, t8⟩ u h tk I oI hv hP hoff F1 N1
    obtain ⟨y, ty, rfl, hy⟩ := hx.item i v hv
    obtain ⟨c, hc, rfl⟩ : ∃ c, bs[i]? = some c ∧ y = nameS c := by
      rw [List.getElem?_map] at hy
      cases hb : bs[i]? with
      | none => rw [hb] at hy; cases hy
      | some c => rw [hb] at hy; exact ⟨c, rfl, (Option.some.inj hy).symm⟩
    have hst : joinTo (bs.take (i + 1)) = joinStep p c := by
      rw [List.take_add_one, hc, joinTo, List.foldl_append]
      show List.foldl joinStep (joinTo _) [c] = _
      dsimp only at hP
      rw [← hP]; rfl
    have hi7 : i < 7 := by
      have := (List.getElem?_eq_some_iff.mp hv).1
      lia
    dsimp only [kstB] at F1 N1 hP ⊢
    have hpl := joinTo_len (bs.take i)
    rw [← hP, List.length_take] at hpl
    cases c with
    | true =>
      rw [show nameS true = Str.ofString "ab" from rfl] at F1
      try k_fold
      k_steps
      · refine Hold.to ?_
        rename Fr _ _ _ _ => F9
        rename News _ _ _ _ => N9
        rename (Txt.endswith _ _ = true) => he
        rw [joinStep, if_pos (show Txt.endswith p slash = true from he)] at hst
        exact fend ⟨_, _, _⟩ F9 N9 (by kst_in) (by simp) (by intro p hp; exact hoff p hp) (by kst_all) hst.symm
      · refine Hold.to ?_
        rename Fr _ _ _ _ => F9
        rename News _ _ _ _ => N9
        rename (Txt.endswith _ _ = false) => he
        rw [joinStep, if_neg (show ¬ Txt.endswith p slash = true by rw [show Txt.endswith p slash = false from he]; decide)] at hst
        exact fend ⟨_, _, _⟩ F9 N9 (by kst_in) (by simp) (by intro p hp; exact hoff p hp) (by kst_all) hst.symm
      · exact absurd (by assumption) (show ¬ ((p.length : Int) = 0) by lia)
    | false =>
      rw [show nameS false = Str.ofString "a" from rfl] at F1
      try k_fold
      k_steps
      · refine Hold.to ?_
        rename Fr _ _ _ _ => F9
        rename News _ _ _ _ => N9
        rename (Txt.endswith _ _ = true) => he
        rw [joinStep, if_pos (show Txt.endswith p slash = true from he)] at hst
        exact fend ⟨_, _, _⟩ F9 N9 (by kst_in) (by simp) (by intro p hp; exact hoff p hp) (by kst_all) hst.symm
      · refine Hold.to ?_
        rename Fr _ _ _ _ => F9
        rename News _ _ _ _ => N9
        rename (Txt.endswith _ _ = false) => he
        rw [joinStep, if_neg (show ¬ Txt.endswith p slash = true by rw [show Txt.endswith p slash = false from he]; decide)] at hst
        exact fend ⟨_, _, _⟩ F9 N9 (by kst_in) (by simp) (by intro p hp; exact hoff p hp) (by kst_all) hst.symm
      · exact absurd (by assumption) (show ¬ ((p.length : Int) = 0) by lia)
  · rintro ⟨p, tp, t8⟩ u h tk hP F1 N1
    have hlen : vs.length = bs.length := by rw [hx.length, List.length_map]
    rw [hlen, List.take_length] at hP
    dsimp only [kstB] at F1 N1 hP ⊢
    subst hP
    try k_fold
    k_steps
    rename Fr _ _ _ _ => F9
    rename News _ _ _ _ => N9
    exact hret _ _ _ _ ⟨⟨_, rfl⟩, rfl⟩ F9 (kst_newsOf N9 (by kst_in))
end
section
theorem SecPath.onPath : True := True.intro
open SecPath
theorem kw_Path_1 : True := by
  k_with "@Path" => guard_expr onPath = onPath
  k_with "StarOf ref" => (k_extra "@Path"; (k_here; k_dflt (refine' star_seq ?z9k1 ?z9k2 ?z9m ?z9c ?z9d ?z9T ?z9e ?z9z ?_; (case z9k1 => k_asm); (case z9k2 => k_asm); (case z9m => k_mem); (case z9c => exact rfl); (case z9d => exact rfl); (case z9T => first | exact .inl rfl | exact .inr rfl); (case z9e => exact List.toList_toArray); (case z9z => (rw [PySem.sizeLine_eq]; simp only [List.size_toArray]; lia)); k_whole); intro h' F' N'; try dsimp only [List.nil_append, List.cons_append]))
  k_with "call ref" => (k_extra "@Path"; (k_here; (with_reducible show wpAny _ _ (call (Value.ref 133) _) _ _ _); (simp only [List.append_nil, List.nil_append, List.cons_append, List.singleton_append]); k_dflt (refine' Claim.u0t (join _ _ _ _ _ ?z9kx ?z9kl) ?z9k1 ?z9k2 ?z9k3 ?z9k4 ?z9k5 ?z9kK ?z9kd ?z9ku ?_; k_extra "K5"; (case z9kx => assumption); (case z9kl => assumption); (case z9kK => first | exact rfl | assumption); (case z9kd => ktr_room); (case z9ku => ktr_units)); intro t9 h9 tk9 F9 N9; (try dsimp only); (try k_fold)))
  trivial
theorem rep_strs (y : Str) (t : Tok) (c : Bool) (e : y = nameS c) : ∀ k : Nat, StrsAre (List.replicate k [Value.str y t]).flatten ((List.replicate k c).map nameS)
  | 0 => .nil
  | k + 1 => by
    subst e
    rw [List.replicate_succ, List.flatten_cons, List.replicate_succ, List.map_cons]
    exact .cons _ _ (rep_strs _ t c rfl k)
set_option maxHeartbeats 8000000 in
theorem path (w : World) (rl : Addr) (vs : List Value) (nn : Nat) (xs : List Str) (news : List (Addr × Obj)) (hr : (rl, listOf vs.toArray nn) ∈ news) (hx : StrsAre vs xs) (hne : ∀ x ∈ xs, 0 < x.length ∧ x.length < 100) (hl : (bitsOf xs).length ≤ 7) :
    Claim w 853 12 80 news [.ref rl] (fun v news' => (∃ t', v = .str (joinTo (bitsOf xs)) t') ∧ news' = news) := by
  intro mean mg mb dp un gd cn cs a ccd cl outer A₀ base h₀ L m s Q E Bl F X N Tp hk hdp hun hret
  refine wpAny_call ?_
  k_dflt (refine' code_def (binds := [(Str.ofString "runs", .ref rl)]) ?k1 ?k2 ?k3 ?k4 ?k5 ?kA ?kF ?kK ?k6 ?k7 ?k8 ?k9 ?kB ?_ ?c2 ?c3 ?c4 ?c5; k_extra "enter")
  k_steps
  refine Hold.to ?_
  rename Fr _ _ _ _ => F9
  rename News _ _ _ _ => N9
  rename ∀ p ∈ news, p.1 < _ => hlt
  obtain ⟨l', rfl⟩ := head_name N9
  refine fo_listL (L := L') (σ := List Value × Nat × List Bool) (fun c => (l', listOf c.1.toArray c.2.1) :: news) (fun c => [(Str.ofString "names", .ref l')])
    (fun i c => StrsAre c.1 (c.2.2.map nameS) ∧ c.2.2 = bitsOf (xs.take i)) ⟨[], 0, []⟩ (vs := vs) (nn := nn) rfl rfl (fun _ => .tail _ hr) F9 (kst_newsOf N9 (by kst_in)) (by kst_all) ⟨.nil, rfl⟩ ?_ ?_
  · rintro i v ⟨ws, e, bs⟩ u h tk I oI hv ⟨hP1, hP2⟩ hoff F1 N1
    obtain ⟨x, tx, rfl, hxi⟩ := hx.item i v hv
    obtain ⟨h9, hxl⟩ := hne x (List.mem_of_getElem? hxi)
    obtain ⟨c, hc⟩ : ∃ c, x.cps[0]? = some c := ⟨x.cps[0]'h9, Array.getElem?_eq_getElem h9⟩
    dsimp only [kstB] at F1 N1 hP1 hP2 ⊢
    have hI : @Ne Nat l' I := hoff _ (.head _)
    have hst : bitsOf (xs.take (i + 1)) = bitsOf (xs.take i) ++ List.replicate x.length (oddStr x) := by
      rw [List.take_add_one, hxi]; simp [bitsOf]
    have hwl : ws.length ≤ 7 := by
      rw [hP1.length, List.length_map, hP2]
      have h1 : bitsOf (xs.take i) ++ bitsOf (xs.drop i) = bitsOf xs := by
        unfold bitsOf; rw [← List.flatMap_append, List.take_append_drop]
      have h2 := congrArg List.length h1
      rw [List.length_append] at h2
      lia
    try k_fold
    k_steps
    · refine Hold.to ?_
      rename Fr _ _ _ _ => F9
      rename News _ _ _ _ => N9
      rename (c ∈ _) => ho
      have ho' : oddStr x = true := by unfold oddStr; rw [hc]; exact decide_eq_true ho
      rw [ho'] at hst
      simp only [List.toList_toArray, Int.toNat_natCast, List.append_toArray] at N9
      exact fend ⟨_, _, bs ++ List.replicate x.length true⟩ F9 N9 (by kst_in) (by simp) (by { intro p hp; rcases List.mem_cons.mp hp with rfl | hp; exact hI; exact hoff p (.tail _ hp) }) (by kst_all) ⟨by rw [List.map_append]; exact StrsAre.append' hP1 (rep_strs _ _ true rfl _), by rw [hst, hP2]⟩
    · refine Hold.to ?_
      rename Fr _ _ _ _ => F9
      rename News _ _ _ _ => N9
      rename (¬ (c ∈ _)) => ho
      have ho' : oddStr x = false := by unfold oddStr; rw [hc]; exact decide_eq_false ho
      rw [ho'] at hst
      simp only [List.toList_toArray, Int.toNat_natCast, List.append_toArray] at N9
      exact fend ⟨_, _, bs ++ List.replicate x.length false⟩ F9 N9 (by kst_in) (by simp) (by { intro p hp; rcases List.mem_cons.mp hp with rfl | hp; exact hI; exact hoff p (.tail _ hp) }) (by kst_all) ⟨by rw [List.map_append]; exact StrsAre.append' hP1 (rep_strs _ _ false rfl _), by rw [hst, hP2]⟩
  · rintro ⟨ws, e, bs⟩ u h tk ⟨hP1, hP2⟩ F1 N1
    have hlen : vs.length = xs.length := hx.length
    rw [hlen, List.take_length] at hP2
    dsimp only [kstB] at F1 N1 hP1 hP2 ⊢
    subst hP2
    have hwl : ws.length ≤ 7 := by rw [hP1.length, List.length_map]; exact hl
    try k_fold
    k_steps
    rename Fr _ _ _ _ => F9
    rename News _ _ _ _ => N9
    exact hret _ _ _ _ ⟨⟨_, rfl⟩, rfl⟩ F9 (kst_newsOf N9 (by kst_in))
end
section
theorem SecInt2AP.onInt2AP : True := True.intro
open SecInt2AP
theorem kw_Int2AP_1 : True := by
  k_with "@Int2AP" => guard_expr onInt2AP = onInt2AP
  k_with "binaryOp Add bytes bytes" => (k_extra "@Int2AP"; (k_here; (with_reducible show wpAny _ _ (binaryOp Operator.Add (Value.bytes _ _) (Value.bytes _ _)) _ _ _); (refine KBy.add_bytes ?z9kz ?_; (case z9kz => (simp only [List.size_toArray, List.length_cons, List.length_nil]; lia))); intro t' k'))
  k_with "subscriptTail Name Slice bytes ref" => (k_extra "@Int2AP"; (k_here; (with_reducible rename Fr _ _ _ _ => F'); (with_reducible rename News _ _ _ _ => N'); (refine KBc.slice_K (s := ⟨_, _, _, _, _⟩) F' N' rfl (by constructor) (by constructor) (by decide) ?_); intro h' t' k' F' N' kbcK; clear kbcK; k_extra "slice"))
  trivial
theorem picked_AP : ∀ d : Fin 16, KBy.picked [65, 66, 67, 68, 69, 70, 71, 72, 73, 74, 75, 76, 77, 78, 79, 80].toArray (some (d.val : Int)) (some ((d.val : Int) + 1)) = [UInt8.ofNat (65 + d.val)].toArray := by decide +kernel
structure ISt where
  n : Nat
  t1 : Tok
  bs : List UInt8
  t2 : Tok
  j : Nat
set_option maxHeartbeats 8000000 in
theorem int2ap (w : World) (n : Nat) (t : Tok) (news : List (Addr × Obj)) (hn : n < 268435456) :
    Claim w 152 8 60 news [.int n t] (fun v news' => (∃ t', v = .bytes (apB n).toArray t') ∧ news' = news) := by
  intro mean mg mb dp un gd cn cs a ccd cl outer A₀ base h₀ L m s Q E Bl F X N Tp hk hdp hun hret
  refine wpAny_call ?_
  k_dflt (refine' code_def (binds := [(Str.ofString "num", .int n t)]) ?k1 ?k2 ?k3 ?k4 ?k5 ?kA ?kF ?kK ?k6 ?k7 ?k8 ?k9 ?kB ?_ ?c2 ?c3 ?c4 ?c5; k_extra "enter")
  k_steps
  refine Hold.to ?_
  rename Fr _ _ _ _ => F9
  rename News _ _ _ _ => N9
  rw [if_neg (show ¬ ((n : Int) < 0) by lia)] at F9
  refine whK (σ := ISt × Tok) (fun _ => news) (fun c => [(Str.ofString "num", .int c.1.n c.1.t1), (Str.ofString "val", .bytes c.1.bs.toArray c.1.t2), (Str.ofString "AP", .bytes [65, 66, 67, 68, 69, 70, 71, 72, 73, 74, 75, 76, 77, 78, 79, 80].toArray c.2)])
    (fun c => c.1.n < 268435456 ∧ c.1.bs.length + c.1.j = 7 ∧ (digs c.1.j c.1.n).map (fun d => UInt8.ofNat (65 + d)) ++ c.1.bs = apB n ∧ c.1.n < 16 ^ c.1.j) (fun c => c.1.n) ⟨⟨n, _, [], _, 7⟩, _⟩ F9 (kst_newsOf N9 (by kst_in)) (by kst_all) ⟨hn, rfl, by simp [apB], hn⟩ ?_
  rintro ⟨⟨n', u1, bs, u2, j⟩, u3⟩ K9 u h tk hK9 hP9 F1 N1
  obtain ⟨hq1, hq2, hq3, hq4⟩ := hP9
  dsimp only [kstB] at F1 N1 hq1 hq2 hq3 hq4 ⊢
  have hpk : KBy.picked [65, 66, 67, 68, 69, 70, 71, 72, 73, 74, 75, 76, 77, 78, 79, 80].toArray (some ((n' : Int).fmod 16)) (some ((n' : Int).fmod 16 + 1)) = [UInt8.ofNat (65 + n' % 16)].toArray := by
    rw [show (n' : Int).fmod 16 = ((n' % 16 : Nat) : Int) from fmod_nat n' 16]
    exact picked_AP ⟨n' % 16, by lia⟩
  k_with "slice" => (rw [hpk])
  try k_fold
  k_steps
  · refine Hold.to ?_
    rename Fr _ _ _ _ => F9
    rename News _ _ _ _ => N9
    have hn0 : n' ≠ 0 := by lia
    obtain ⟨j, rfl⟩ : ∃ i, j = i + 1 := ⟨j - 1, by have : j ≠ 0 := by { intro e; subst e; simp at hq4; lia }; lia⟩
    have e1 : Int.fdiv (n' : Int) 16 = ((n' / 16 : Nat) : Int) := fdiv_nat n' 16
    rw [e1] at F9
    rw [digs_pos hn0] at hq3
    simp only [List.append_toArray] at F9
    refine wend ⟨⟨n' / 16, _, [UInt8.ofNat (65 + n' % 16)] ++ bs, _, j⟩, _⟩ F9 (kst_newsOf N9 (by kst_in)) (fun _ h => h) (by kst_all) ⟨by dsimp only; lia, by simp at hq2 ⊢; lia, by simpa using hq3, by dsimp only; rw [Nat.pow_succ] at hq4; lia⟩ (by dsimp only; lia)
  · rename Fr _ _ _ _ => F9
    rename News _ _ _ _ => N9
    have hn0 : n' = 0 := by lia
    subst hn0
    have hd0 : digs j 0 = [] := by cases j <;> simp [digs]
    rw [hd0, List.map_nil, List.nil_append] at hq3
    subst hq3
    exact hret _ _ _ _ ⟨⟨_, rfl⟩, rfl⟩ F9 N9
end
section
noncomputable abbrev sioEs (p : Params) (k1 k2 k3 : Tok) (x : Str) (t : Tok) (i : Int) (ti : Tok) : List DictEntry :=
  [⟨PyData.keyHash p (Str.ofString "_StringIO__newline"), .str (Str.ofString "_StringIO__newline") k1, .str (Str.ofString "\n") 834⟩,
   ⟨PyData.keyHash p (Str.ofString "_StringIO__buf"), .str (Str.ofString "_StringIO__buf") k2, .str x t⟩,
   ⟨PyData.keyHash p (Str.ofString "_StringIO__pos"), .str (Str.ofString "_StringIO__pos") k3, .int i ti⟩]
set_option maxHeartbeats 8000000 in
theorem sio (w : World) (x : Str) (t : Tok) (news : List (Addr × Obj)) (hx : x.length < 1000) :
    Claim w 700 20 200 news [.str x t] (fun v news' => ∃ x9 dx9 k1 k2 k3 ti, v = .ref x9 ∧ news' = (x9, instObj 700 dx9) :: (dx9, dictOf (sioEs w.params k1 k2 k3 x t 0 ti) 3) :: news ∧ (∀ p ∈ news, p.1 < dx9) ∧ dx9 < x9) := by
  intro mean mg mb dp un gd cn cs a ccd cl outer A₀ base h₀ L m s Q E Bl F X N Tp hk hdp hun hret
  obtain ⟨ck, cs1, cs2, cs3⟩ := cs
  dsimp only at hk
  subst hk
  refine wpAny_call ?_
  obtain ⟨h, g, d, tk, os⟩ := s
  refine make_own (K := hd.heap_39 w.params) (X.keeps F.keep) (by rfl) (by rfl) (by rfl) (by rfl) (by kernel_rfl) (by rfl) (by rfl) (by rfl) ?_
  k_steps
  refine new_ownN (K := hd.heap_39 w.params) (by k_asm) (by k_asm) (by k_asm) (by rfl) (by rfl) (by rfl) (by rfl) (by rfl) (by kernel_rfl) (by kernel_rfl) ?_
  intro x9 dx9 h9 F9 N9 l1 l2
  have l3 := l1
  have l4 := l2
  k_lt l1
  k_lt2 l2
  k_steps
  · rename News _ _ _ _ => N9
    exact (Looks.ld (N9 _ (.head _)).1).andThen .now
  k_enter
  k_steps
  rename Fr _ _ _ _ => F9
  rename News _ _ _ _ => N9
  refine hret _ _ _ _ ⟨_, _, _, _, _, _, rfl, rfl, ?_, l4⟩ F9 (kst_newsOf N9 (by kst_in))
  exact fun p hp => l3 p (.tail _ (.tail _ hp))
end
section
noncomputable def charAt (x : Str) (i : Nat) : Str := ⟨((x.cps.toList.drop i).take 1).toArray⟩
theorem charAt_end {x : Str} {i : Nat} (h : x.length ≤ i) : charAt x i = Str.ofString "" := by
  unfold charAt
  rw [List.drop_eq_nil_of_le (by rw [Array.length_toList]; exact h)]
  rfl
theorem slice_back (y : Str) : Txt.slice (y ++ Str.ofString " ") none (some (-1)) = y := by
  have h1 : (Str.ofString " ").length = 1 := by decide
  have h2 : (y ++ Str.ofString " ").length = y.length + 1 := by rw [Str.length_append, h1]
  have h := eq_of_beq (slice_closes_to_neg (x := y ++ Str.ofString " ") (j := -1) (k := y.length) (by omega) (by omega) (by omega))
  rw [h]
  have h3 : (y ++ Str.ofString " ").cps.toList = y.cps.toList ++ [32] := by
    show (y.cps ++ (Str.ofString " ").cps).toList = _
    rw [Array.toList_append]; rfl
  rw [h3]
  simp only [Int.toNat_zero, List.drop_zero, Int.sub_zero, Int.toNat_natCast]
  have h4 : y.length = y.cps.toList.length := by rw [Array.length_toList]; rfl
  rw [h4, List.take_left]
theorem slice_at {x : Str} {i : Nat} {j : Int} (h : i < x.length) (hj : j = i + 1) : Txt.slice x (some (i : Int)) (some j) = charAt x i := by
  subst hj
  have h4 : x.length = x.cps.toList.length := by rw [Array.length_toList]; rfl
  rw [eq_of_beq (slice_closes (x := x) (i := i) (j := i + 1) ⟨by omega, by omega, by omega⟩)]
  unfold charAt
  rw [Int.toNat_natCast, show ((i : Int) + 1 - i).toNat = 1 by omega]
noncomputable def after (x : Str) (i : Nat) : Nat := if i < x.length then i + 1 else i
set_option maxHeartbeats 8000000 in
theorem read1 (w : World) (x9 dx9 : Addr) (k1 k2 k3 t tr ti : Tok) (x : Str) (i : Nat) (news : List (Addr × Obj)) (hx : x.length < 1000) (hi : i ≤ x.length) (hxd : x9 ≠ dx9) (hb : ∀ p ∈ news, p.1 ≠ dx9) :
    Claim w 646 20 200 ((x9, instObj 700 dx9) :: (dx9, dictOf (sioEs w.params k1 k2 k3 x t i ti) 3) :: news) [.ref x9, .int 1 tr] (fun v news' => ∃ t' ti', v = .str (charAt x i) t' ∧ news' = (x9, instObj 700 dx9) :: (dx9, dictOf (sioEs w.params k1 k2 k3 x t (after x i) ti') 3) :: news) := by
  intro mean mg mb dp un gd cn cs a ccd cl outer A₀ base h₀ L m s Q E Bl F X N Tp hk hdp hun hret
  obtain ⟨ck, cs1, cs2, cs3⟩ := cs
  dsimp only at hk
  subst hk
  refine wpAny_call ?_
  k_enter
  k_steps
  · rename Fr h₀ _ _ _ => F9
    rename News h₀ _ _ _ => N9
    have h : x.length ≤ i := by omega
    refine hret _ _ _ _ ⟨_, ti, by rw [charAt_end h], ?_⟩ F9 N9
    unfold after
    rw [if_neg (by omega)]
  · rename Fr h₀ _ _ _ => F9
    rename News h₀ _ _ _ => N9
    rw [slice_back, slice_at (i := i) (by omega) rfl]
    have ea : ((after x i : Nat) : Int) = (i : Int) + 1 := by unfold after; rw [if_pos (by omega)]; omega
    refine' hret _ _ _ _ ⟨_, _, rfl, ?_⟩ F9 N9
    rotate_left
    rw [ea]
  · rename Fr h₀ _ _ _ => F9
    rename News h₀ _ _ _ => N9
    rw [slice_back, slice_at (i := i) (by omega) (by omega)]
    have ea : ((after x i : Nat) : Int) = (x.length : Int) := by unfold after; rw [if_pos (by omega)]; omega
    refine' hret _ _ _ _ ⟨_, _, rfl, ?_⟩ F9 N9
    rotate_left
    rw [ea]
end
section
structure LexK where
  x9 : Nat
  dx9 : Nat
  x8 : Nat
  dx8 : Nat
  d2 : Nat
  d3 : Nat
  d4 : Nat
  k : Nat → Tok
  v : Nat → Tok
  pt : Tok
  x : Str
  t : Tok
noncomputable abbrev ent (p : Params) (n : Str) (k : Tok) (v : Value) : DictEntry := ⟨PyData.keyHash p n, .str n k, v⟩
noncomputable abbrev lexEs (p : Params) (K : LexK) (st : Value) (tok : Value) : List DictEntry :=
  [⟨PyData.keyHash p (Str.ofString "instream"), .str (Str.ofString "instream") (K.k 0), .ref K.x9⟩,
   ⟨PyData.keyHash p (Str.ofString "infile"), .str (Str.ofString "infile") (K.k 1), .none⟩,
   ⟨PyData.keyHash p (Str.ofString "posix"), .str (Str.ofString "posix") (K.k 2), .bool false⟩,
   ⟨PyData.keyHash p (Str.ofString "eof"), .str (Str.ofString "eof") (K.k 3), .str (Str.ofString "") (K.v 3)⟩,
   ⟨PyData.keyHash p (Str.ofString "commenters"), .str (Str.ofString "commenters") (K.k 4), .str (Str.ofString "#") (K.v 4)⟩,
   ⟨PyData.keyHash p (Str.ofString "wordchars"), .str (Str.ofString "wordchars") (K.k 5), .str (Str.ofString "abcdfeghijklmnopqrstuvwxyzACEGIKMOQRSTUVWXYZ0123456789_~-./*?=") (K.v 5)⟩,
   ⟨PyData.keyHash p (Str.ofString "whitespace"), .str (Str.ofString "whitespace") (K.k 6), .str (Str.ofString " \t\x0d\n") (K.v 6)⟩,
   ⟨PyData.keyHash p (Str.ofString "whitespace_split"), .str (Str.ofString "whitespace_split") (K.k 7), .bool false⟩,
   ⟨PyData.keyHash p (Str.ofString "quotes"), .str (Str.ofString "quotes") (K.k 8), .str (Str.ofString "'\"") (K.v 8)⟩,
   ⟨PyData.keyHash p (Str.ofString "escape"), .str (Str.ofString "escape") (K.k 9), .str (Str.ofString "\\") (K.v 9)⟩,
   ⟨PyData.keyHash p (Str.ofString "escapedquotes"), .str (Str.ofString "escapedquotes") (K.k 10), .str (Str.ofString "\"") (K.v 10)⟩,
   ⟨PyData.keyHash p (Str.ofString "state"), .str (Str.ofString "state") (K.k 11), st⟩,
   ⟨PyData.keyHash p (Str.ofString "pushback"), .str (Str.ofString "pushback") (K.k 12), .ref K.d4⟩,
   ⟨PyData.keyHash p (Str.ofString "lineno"), .str (Str.ofString "lineno") (K.k 13), .int 1 (K.v 13)⟩,
   ⟨PyData.keyHash p (Str.ofString "debug"), .str (Str.ofString "debug") (K.k 14), .int 0 (K.v 14)⟩,
   ⟨PyData.keyHash p (Str.ofString "token"), .str (Str.ofString "token") (K.k 15), tok⟩,
   ⟨PyData.keyHash p (Str.ofString "filestack"), .str (Str.ofString "filestack") (K.k 16), .ref K.d3⟩,
   ⟨PyData.keyHash p (Str.ofString "source"), .str (Str.ofString "source") (K.k 17), .none⟩,
   ⟨PyData.keyHash p (Str.ofString "_punctuation_chars"), .str (Str.ofString "_punctuation_chars") (K.k 18), .str (Str.ofString "BDFHJLNP") K.pt⟩,
   ⟨PyData.keyHash p (Str.ofString "_pushback_chars"), .str (Str.ofString "_pushback_chars") (K.k 19), .ref K.d2⟩]
noncomputable abbrev lexNews (p : Params) (K : LexK) (st tok : Value) (pend : List Value) (pk : Int) (i : Nat) (ti : Tok) (news : List (Addr × Obj)) : List (Addr × Obj) :=
  (K.d2, Dq.dqOf pend pk) :: (K.d3, Dq.dqOf [] 0) :: (K.d4, Dq.dqOf [] 0) :: (K.x9, instObj 700 K.dx9) :: (K.dx9, dictOf (sioEs p (K.k 20) (K.k 21) (K.k 22) K.x K.t i ti) 3) :: (K.x8, instObj 835 K.dx8) :: (K.dx8, dictOf (lexEs p K st tok) 20) :: news
structure Apart (K : LexK) (news : List (Addr × Obj)) : Prop where
  l1 : K.dx8 < K.x8
  l2 : K.x8 < K.dx9
  l3 : K.dx9 < K.x9
  l4 : K.x9 < K.d4
  l5 : K.d4 < K.d3
  l6 : K.d3 < K.d2
  o1 : ∀ p ∈ news, p.1 ≠ K.dx9
  o2 : ∀ p ∈ news, p.1 ≠ K.dx8
  o3 : ∀ p ∈ news, p.1 ≠ K.d2
noncomputable def stV : Nat → Tok → Value
  | 0, t => .str (Str.ofString " ") t
  | 1, t => .str (Str.ofString "a") t
  | 2, t => .str (Str.ofString "c") t
  | _, _ => .none
structure Kind (c : Nat) (s w p : Bool) : Prop where
  sp : decide (c ∈ (Str.ofString " \t\x0d\n").cps.toList) = s
  wd : decide (c ∈ (Str.ofString "abcdfeghijklmnopqrstuvwxyzACEGIKMOQRSTUVWXYZ0123456789_~-./*?=").cps.toList) = w
  pu : decide (c ∈ (Str.ofString "BDFHJLNP").cps.toList) = p
  co : decide (c ∈ (Str.ofString "#").cps.toList) = false
  qu : decide (c ∈ (Str.ofString "'\"").cps.toList) = false
  nl : ((⟨#[c]⟩ : Str) == Str.ofString "\n") = false
theorem kind_all : ∀ c ∈ 32 :: (wordL ++ punctL), (c = 32 ∧ Kind c true false false) ∨ (c ∈ wordL ∧ Kind c false true false) ∨ (c ∈ punctL ∧ Kind c false false true) := by
  have h : ∀ c ∈ 32 :: (wordL ++ punctL), (c = 32 ∧ decide (c ∈ (Str.ofString " \t\x0d\n").cps.toList) = true ∧ decide (c ∈ wordL) = false ∧ decide (c ∈ punctL) = false ∧ decide (c ∈ (Str.ofString "#").cps.toList) = false ∧ decide (c ∈ (Str.ofString "'\"").cps.toList) = false ∧ c ≠ 10) ∨
      (decide (c ∈ (Str.ofString " \t\x0d\n").cps.toList) = false ∧ decide (c ∈ wordL) = true ∧ decide (c ∈ punctL) = false ∧ decide (c ∈ (Str.ofString "#").cps.toList) = false ∧ decide (c ∈ (Str.ofString "'\"").cps.toList) = false ∧ c ≠ 10) ∨
      (decide (c ∈ (Str.ofString " \t\x0d\n").cps.toList) = false ∧ decide (c ∈ wordL) = false ∧ decide (c ∈ punctL) = true ∧ decide (c ∈ (Str.ofString "#").cps.toList) = false ∧ decide (c ∈ (Str.ofString "'\"").cps.toList) = false ∧ c ≠ 10) := by decide +kernel
  have hn : ∀ c : Nat, c ≠ 10 → ((⟨#[c]⟩ : Str) == Str.ofString "\n") = false := by
    intro c hc
    rw [beq_eq_false_iff_ne]
    intro e
    have e2 : (⟨#[c]⟩ : Str).cps.toList = (Str.ofString "\n").cps.toList := by rw [e]
    have e3 : (Str.ofString "\n").cps.toList = [10] := by decide
    rw [e3] at e2
    simp at e2
    exact hc e2
  intro c hc
  rcases h c hc with ⟨a, b1, b2, b3, b4, b5, b6⟩ | ⟨b1, b2, b3, b4, b5, b6⟩ | ⟨b1, b2, b3, b4, b5, b6⟩
  · exact .inl ⟨a, b1, b2, b3, b4, b5, hn c b6⟩
  · exact .inr (.inl ⟨of_decide_eq_true b2, b1, b2, b3, b4, b5, hn c b6⟩)
  · exact .inr (.inr ⟨of_decide_eq_true b3, b1, b2, b3, b4, b5, hn c b6⟩)
theorem charAt_lt {x : Str} {i c : Nat} (h : x.cps.toList[i]? = some c) : charAt x i = ⟨#[c]⟩ := by
  unfold charAt
  obtain ⟨hi, e⟩ := List.getElem?_eq_some_iff.mp h
  rw [List.drop_eq_getElem_cons hi, e]
  rfl
theorem readC (w : World) (x9 dx9 : Addr) (k1 k2 k3 t tr ti : Tok) (x : Str) (i c : Nat) (news : List (Addr × Obj)) (hx : x.length < 1000) (hc : x.cps.toList[i]? = some c) (hxd : x9 ≠ dx9) (hb : ∀ p ∈ news, p.1 ≠ dx9) :
    Claim w 646 20 200 ((x9, instObj 700 dx9) :: (dx9, dictOf (sioEs w.params k1 k2 k3 x t i ti) 3) :: news) [.ref x9, .int 1 tr] (fun v news' => ∃ t' ti', v = .str ⟨#[c]⟩ t' ∧ news' = (x9, instObj 700 dx9) :: (dx9, dictOf (sioEs w.params k1 k2 k3 x t ((i + 1 : Nat) : Int) ti') 3) :: news) := by
  have hi : i < x.length := by have := (List.getElem?_eq_some_iff.mp hc).1; rw [Array.length_toList] at this; exact this
  have h := read1 w x9 dx9 k1 k2 k3 t tr ti x i news hx (by lia) hxd hb
  rw [charAt_lt hc] at h
  unfold after at h
  rw [if_pos hi] at h
  exact h
theorem readE (w : World) (x9 dx9 : Addr) (k1 k2 k3 t tr ti : Tok) (x : Str) (i : Nat) (news : List (Addr × Obj)) (hx : x.length < 1000) (hc : i = x.length) (hxd : x9 ≠ dx9) (hb : ∀ p ∈ news, p.1 ≠ dx9) :
    Claim w 646 20 200 ((x9, instObj 700 dx9) :: (dx9, dictOf (sioEs w.params k1 k2 k3 x t i ti) 3) :: news) [.ref x9, .int 1 tr] (fun v news' => ∃ t' ti', v = .str (Str.ofString "") t' ∧ news' = (x9, instObj 700 dx9) :: (dx9, dictOf (sioEs w.params k1 k2 k3 x t i ti') 3) :: news) := by
  have h := read1 w x9 dx9 k1 k2 k3 t tr ti x i news hx (by lia) hxd hb
  rw [charAt_end (by lia)] at h
  unfold after at h
  rw [if_neg (by lia)] at h
  exact h
theorem read_N {w : World} {x9 dx9 : Addr} {k1 k2 k3 t tr ti : Tok} {x r : Str} {i j : Nat} {news : List (Addr × Obj)} {news' : Tok → List (Addr × Obj)}
    {mean : ExcName → Option Value} {mg mb : Str → Option Value} {dp un : Nat} {gd : Option (List Code)} {cn : Str} {cs : Scope} {a : Addr} {ccd : Value} {cl : List (Str × Addr)} {outer : List Env} {A₀ : Around} {base h₀ : Heap} {L : Addr} {m : Str → Option Value} {s : Shared} {Q E : Value → Shared → Prop}
    (C : ∀ rest : List (Addr × Obj), (∀ p ∈ rest, p.1 ≠ dx9) → Claim w 646 20 200 ((x9, instObj 700 dx9) :: (dx9, dictOf (sioEs w.params k1 k2 k3 x t i ti) 3) :: rest) [.ref x9, .int 1 tr] (fun v news' => ∃ t' ti', v = .str r t' ∧ news' = (x9, instObj 700 dx9) :: (dx9, dictOf (sioEs w.params k1 k2 k3 x t j ti') 3) :: rest))
    (Bl : Below A₀ base outer h₀) (F : Fr h₀ L s.heap m) (X : (hd.heap_39 w.params).In h₀) (N : News h₀ L s.heap news) (T : Top hd.view_39 loose0 mean mg mb h₀) (hk : cs.kind = .function) (hdp : dp + 20 < recursionLimit) (hun : un + 200 < cLine)
    (hm : (x9, instObj 700 dx9) ∈ news) (U : ∀ ti', Upd dx9 (dictOf (sioEs w.params k1 k2 k3 x t i ti) 3) (dictOf (sioEs w.params k1 k2 k3 x t j ti') 3) news (news' ti'))
    (ret : ∀ h' tk' t' ti', Fr h₀ L h' m → News h₀ L h' (news' ti') → Q (.str r t') { s with heap := h', toks := tk' }) :
    wpAny (model PySem.Challenge.rw_ik0085_01.row.prog w) (ktrTop dp un gd cn cs L a ccd cl outer) (call (.ref 646) [.ref x9, .int 1 tr]) Q E s := by
  obtain ⟨pre, post, rfl, -, ha1, ha2⟩ := (U 0).split
  have hr : ∀ p ∈ pre ++ post, p.1 ≠ dx9 := fun p hp => (List.mem_append.mp hp).elim (ha1 p) (ha2 p)
  refine Claim.use (C (pre ++ post) hr) Bl F X (fun p hp => ?_) T hk hdp hun ?_
  · rcases List.mem_cons.mp hp with rfl | hp
    · exact N _ hm
    · rcases List.mem_cons.mp hp with rfl | hp
      · exact N _ (List.mem_append.mpr (.inr (.head _)))
      · exact N _ (List.mem_append.mpr ((List.mem_append.mp hp).imp id (.tail _)))
  · rintro v h' tk' nw ⟨t', ti', rfl, rfl⟩ F' N'
    refine ret h' tk' t' ti' F' ?_
    obtain ⟨pre2, post2, e1, e2, hb1, hb2⟩ := (U ti').split
    rw [e2]
    have old : ∀ p ∈ pre2 ++ post2, p ∈ pre ++ post := by
      intro p hp
      have hm2 : p ∈ pre2 ++ (dx9, dictOf (sioEs w.params k1 k2 k3 x t i ti) 3) :: post2 := List.mem_append.mpr ((List.mem_append.mp hp).imp id (.tail _))
      rw [← e1] at hm2
      have hne : p.1 ≠ dx9 := (List.mem_append.mp hp).elim (hb1 p) (hb2 p)
      rcases List.mem_append.mp hm2 with q | q
      · exact List.mem_append.mpr (.inl q)
      · rcases List.mem_cons.mp q with rfl | q
        · exact absurd rfl hne
        · exact List.mem_append.mpr (.inr q)
    intro p hp
    rcases List.mem_append.mp hp with q | q
    · exact N' _ (.tail _ (.tail _ (old p (List.mem_append.mpr (.inl q)))))
    · rcases List.mem_cons.mp q with rfl | q
      · exact N' _ (.tail _ (.head _))
      · exact N' _ (.tail _ (.tail _ (old p (List.mem_append.mpr (.inr q)))))
theorem readC_N {w : World} {x9 dx9 : Addr} {k1 k2 k3 t tr ti : Tok} {x : Str} {i c : Nat} {news : List (Addr × Obj)} {news' : Tok → List (Addr × Obj)}
    {mean : ExcName → Option Value} {mg mb : Str → Option Value} {dp un : Nat} {gd : Option (List Code)} {cn : Str} {cs : Scope} {a : Addr} {ccd : Value} {cl : List (Str × Addr)} {outer : List Env} {A₀ : Around} {base h₀ : Heap} {L : Addr} {m : Str → Option Value} {s : Shared} {Q E : Value → Shared → Prop}
    (hx : x.length < 1000) (hc : x.cps.toList[i]? = some c) (hxd : @Ne Nat x9 dx9)
    (Bl : Below A₀ base outer h₀) (F : Fr h₀ L s.heap m) (X : (hd.heap_39 w.params).In h₀) (N : News h₀ L s.heap news) (T : Top hd.view_39 loose0 mean mg mb h₀) (hk : cs.kind = .function) (hdp : dp + 20 < recursionLimit) (hun : un + 200 < cLine)
    (hm : (x9, instObj 700 dx9) ∈ news) (U : ∀ ti', Upd dx9 (dictOf (sioEs w.params k1 k2 k3 x t i ti) 3) (dictOf (sioEs w.params k1 k2 k3 x t ((i + 1 : Nat) : Int) ti') 3) news (news' ti'))
    (ret : ∀ h' tk' t' ti', Fr h₀ L h' m → News h₀ L h' (news' ti') → Q (.str ⟨#[c]⟩ t') { s with heap := h', toks := tk' }) :
    wpAny (model PySem.Challenge.rw_ik0085_01.row.prog w) (ktrTop dp un gd cn cs L a ccd cl outer) (call (.ref 646) [.ref x9, .int 1 tr]) Q E s :=
  read_N (j := i + 1) (fun rest hr => readC w x9 dx9 k1 k2 k3 t tr ti x i c rest hx hc hxd hr) Bl F X N T hk hdp hun hm U ret
theorem readE_N {w : World} {x9 dx9 : Addr} {k1 k2 k3 t tr ti : Tok} {x : Str} {i: Nat} {news : List (Addr × Obj)} {news' : Tok → List (Addr × Obj)}
    {mean : ExcName → Option Value} {mg mb : Str → Option Value} {dp un : Nat} {gd : Option (List Code)} {cn : Str} {cs : Scope} {a : Addr} {ccd : Value} {cl : List (Str × Addr)} {outer : List Env} {A₀ : Around} {base h₀ : Heap} {L : Addr} {m : Str → Option Value} {s : Shared} {Q E : Value → Shared → Prop}
    (hx : x.length < 1000) (hc : i = x.length) (hxd : @Ne Nat x9 dx9)
    (Bl : Below A₀ base outer h₀) (F : Fr h₀ L s.heap m) (X : (hd.heap_39 w.params).In h₀) (N : News h₀ L s.heap news) (T : Top hd.view_39 loose0 mean mg mb h₀) (hk : cs.kind = .function) (hdp : dp + 20 < recursionLimit) (hun : un + 200 < cLine)
    (hm : (x9, instObj 700 dx9) ∈ news) (U : ∀ ti', Upd dx9 (dictOf (sioEs w.params k1 k2 k3 x t i ti) 3) (dictOf (sioEs w.params k1 k2 k3 x t (i : Int) ti') 3) news (news' ti'))
    (ret : ∀ h' tk' t' ti', Fr h₀ L h' m → News h₀ L h' (news' ti') → Q (.str (Str.ofString "") t') { s with heap := h', toks := tk' }) :
    wpAny (model PySem.Challenge.rw_ik0085_01.row.prog w) (ktrTop dp un gd cn cs L a ccd cl outer) (call (.ref 646) [.ref x9, .int 1 tr]) Q E s :=
  read_N (j := i) (fun rest hr => readE w x9 dx9 k1 k2 k3 t tr ti x i rest hx hc hxd hr) Bl F X N T hk hdp hun hm U ret
section
variable {prog : Program} {w : World} {A : Around} {E : Value → Shared → Prop} {s : Shared} {c : Nat} {x : Str} {u t : Tok}
theorem in_oneB {b : Bool} {Q : Value → Shared → Prop} (hb : decide (c ∈ x.cps.toList) = b) (h : Q (.bool b) s) : wpAny (model prog w) A (compareOp .In (.str ⟨#[c]⟩ u) (.str x t)) Q E s := in_one (hb ▸ h)
end
section
variable {prog : Program} {w : World} {A : Around} {E : Value → Shared → Prop} {s : Shared} {u t : Tok}
theorem in_lit {y x : Str} {c : Nat} {b : Bool} {Q : Value → Shared → Prop} (e : y = ⟨#[c]⟩) (hb : decide (c ∈ x.cps.toList) = b) (h : Q (.bool b) s) : wpAny (model prog w) A (compareOp .In (.str y u) (.str x t)) Q E s := by
  subst e; exact in_oneB hb h
theorem aq {Q : Value → Shared → Prop} (h : Q (.bool false) s) : wpAny (model prog w) A (compareOp .In (.str (Str.ofString "a") u) (.str (Str.ofString "'\"") t)) Q E s := in_lit (c := 97) (by kernel_rfl) (by decide) h
theorem cq {Q : Value → Shared → Prop} (h : Q (.bool false) s) : wpAny (model prog w) A (compareOp .In (.str (Str.ofString "c") u) (.str (Str.ofString "'\"") t)) Q E s := in_lit (c := 99) (by kernel_rfl) (by decide) h
theorem ae {Q : Value → Shared → Prop} (h : Q (.bool false) s) : wpAny (model prog w) A (compareOp .In (.str (Str.ofString "a") u) (.str (Str.ofString "\\") t)) Q E s := in_lit (c := 97) (by kernel_rfl) (by decide) h
theorem ce {Q : Value → Shared → Prop} (h : Q (.bool false) s) : wpAny (model prog w) A (compareOp .In (.str (Str.ofString "c") u) (.str (Str.ofString "\\") t)) Q E s := in_lit (c := 99) (by kernel_rfl) (by decide) h
end
end
section
noncomputable def tokS : List Nat → Str
  | [] => Str.ofString ""
  | a :: l => ⟨(a :: l).toArray⟩
theorem stV_0 (t : Tok) : stV 0 t = .str (Str.ofString " ") t := rfl
theorem stV_1 (t : Tok) : stV 1 t = .str (Str.ofString "a") t := rfl
theorem stV_2 (t : Tok) : stV 2 t = .str (Str.ofString "c") t := rfl
theorem stV_3 (t : Tok) : stV 3 t = .none := rfl
theorem tokS_nil : tokS [] = Str.ofString "" := rfl
theorem tokS_cons (a : Nat) (l : List Nat) : tokS (a :: l) = ⟨(a :: l).toArray⟩ := rfl
section
variable {prog : Program} {w : World} {A : Around} {E : Value → Shared → Prop} {s : Shared} {u t : Tok} {c a : Nat} {l : List Nat} {x : Str}
theorem truthy_one {Q : Bool → Shared → Prop} (h : Q true { s with toks := s.toks + 1 + 1 }) : wpAny (model prog w) A (truthy (.str ⟨#[c]⟩ u)) Q E s :=
  P.truthy_str (by show ¬ (((#[c] : Array Nat).size : Nat) : Int) ≥ 2 ^ 63; simp) h
theorem truthy_tok {Q : Bool → Shared → Prop} (hl : l.length < 1000000) (h : Q true { s with toks := s.toks + 1 + 1 }) : wpAny (model prog w) A (truthy (.str ⟨(a :: l).toArray⟩ u)) Q E s := by
  have e : (⟨(a :: l).toArray⟩ : Str).length = l.length + 1 := by show (a :: l).toArray.size = _; simp
  refine P.truthy_str (by rw [e]; lia) ?_
  rw [show (((⟨(a :: l).toArray⟩ : Str).length : Int) != 0) = true by rw [e]; simp; lia]
  exact h
theorem truthy_emp {Q : Bool → Shared → Prop} (h : Q false { s with toks := s.toks + 1 + 1 }) : wpAny (model prog w) A (truthy (.str (Str.ofString "") u)) Q E s :=
  P.truthy_str (by decide) h
theorem iadd_tok {Q : Value → Shared → Prop} (hl : l.length < 1000) (h : ∀ t' tk, Q (.str ⟨(a :: (l ++ [c])).toArray⟩ t') { s with toks := tk }) : wpAny (model prog w) A (inplaceOp .Add (.str ⟨(a :: l).toArray⟩ u) (.str ⟨#[c]⟩ t)) Q E s := by
  have e : (⟨(a :: l).toArray⟩ : Str) ++ (⟨#[c]⟩ : Str) = ⟨(a :: (l ++ [c])).toArray⟩ := by
    show Str.append _ _ = _
    simp [Str.append]
  refine SBL.iadd (hsz := ?hz) ?hq
  case hz =>
    rw [sizeLine_eq]
    show (a :: l).toArray.size + (#[c] : Array Nat).size ≤ _
    simp; lia
  case hq =>
    intro t' k _
    rw [e]
    exact h t' k
theorem notin_oneB {b : Bool} {Q : Value → Shared → Prop} (hb : decide (c ∈ x.cps.toList) = b) (h : Q (.bool (!b)) s) : wpAny (model prog w) A (compareOp .NotIn (.str ⟨#[c]⟩ u) (.str x t)) Q E s := notin_one (hb ▸ h)
end
section
variable {prog : Program} {w : World} {A : Around} {E : Value → Shared → Prop} {s : Shared} {h₀ : Heap} {L : Addr} {m : Str → Option Value} {news : List (Addr × Obj)}
theorem append1_N {d : Addr} {k : Int} {v : Value} {news' : List (Addr × Obj)} {Q : Value → Shared → Prop} (F : Fr h₀ L s.heap m) (N : News h₀ L s.heap news)
    (U : Upd d (Dq.dqOf [] k) (Dq.dqOf [v] (k + 1)) news news') (h : ∀ h', Fr h₀ L h' m → News h₀ L h' news' → Q .none { s with heap := h' }) :
    wpAny (model prog w) A (call (.builtin "collections.deque.append") [.ref d, v]) Q E s := Dq.append_N (vs := []) F N (by decide) U h
theorem pop1_N {d : Addr} {k : Int} {v : Value} {news' : List (Addr × Obj)} {Q : Value → Shared → Prop} (F : Fr h₀ L s.heap m) (N : News h₀ L s.heap news)
    (U : Upd d (Dq.dqOf [v] k) (Dq.dqOf [] (k + 1)) news news') (h : ∀ h', Fr h₀ L h' m → News h₀ L h' news' → Q v { s with heap := h' }) :
    wpAny (model prog w) A (call (.builtin "collections.deque.pop") [.ref d]) Q E s := Dq.pop_N (vs := []) F N (by decide) U h
theorem truth1_N {d : Addr} {v : Value} {k : Int} {Q : Bool → Shared → Prop} (N : News h₀ L s.heap news) (hm : (d, Dq.dqOf [v] k) ∈ news)
    (h : Q true { s with toks := s.toks + 1 + 1 }) : wpAny (model prog w) A (truthy (.ref d)) Q E s := Dq.truth_N N hm (by simp) h
theorem truth0_N {d : Addr} {k : Int} {Q : Bool → Shared → Prop} (N : News h₀ L s.heap news) (hm : (d, Dq.dqOf [] k) ∈ news)
    (h : Q false { s with toks := s.toks + 1 + 1 }) : wpAny (model prog w) A (truthy (.ref d)) Q E s := Dq.truth_N N hm (by simp) h
theorem meth_append {d : Addr} {vs : List Value} {k : Int} {pl : Sem Bool} {Q : Value × List Value → Shared → Prop} (N : News h₀ L s.heap news) (hm : (d, Dq.dqOf vs k) ∈ news)
    (h : Q (.builtin "collections.deque.append", [.ref d]) s) : wpAny (model prog w) A (getMethod (.ref d) (Str.ofString "append") pl) Q E s := Dq.method N hm Dq.slot_append Dq.type_append h
theorem meth_pop {d : Addr} {vs : List Value} {k : Int} {pl : Sem Bool} {Q : Value × List Value → Shared → Prop} (N : News h₀ L s.heap news) (hm : (d, Dq.dqOf vs k) ∈ news)
    (h : Q (.builtin "collections.deque.pop", [.ref d]) s) : wpAny (model prog w) A (getMethod (.ref d) (Str.ofString "pop") pl) Q E s := Dq.method N hm Dq.slot_pop Dq.type_pop h
end
section
variable {σ : Type} {h₀ : Heap} {L : Addr} {s s₂ : Shared} {Led : σ → List (Addr × Obj)} {ps : σ → List (Str × Value)} {P : σ → Prop} {μ : σ → Nat} {Q : Flow → Shared → Prop} {c : σ}
theorem WPost.ofBrk (h : Q .next s₂) : WPost h₀ L s Led ps P μ Q c .brk s₂ := h
end
theorem drop_at {x : Str} {i c : Nat} (h : x.cps.toList[i]? = some c) : x.cps.toList.drop i = c :: x.cps.toList.drop (i + 1) := by
  obtain ⟨hi, e⟩ := List.getElem?_eq_some_iff.mp h
  rw [List.drop_eq_getElem_cons hi, e]
noncomputable def RtPost (p : Params) (K : LexK) (news : List (Addr × Obj)) (t : List Nat) (e : Bool) (pd r : List Nat) : Post := fun v news' => ∃ t' ts tt pv pk i ti,
  v = .str (tokS t) t' ∧ news' = lexNews p K (stV (if e then 3 else 0) ts) (.str (Str.ofString "") tt) pv pk i ti news ∧ StrsAre pv (pd.map fun c => ⟨#[c]⟩) ∧ i ≤ K.x.length ∧ K.x.cps.toList.drop i = r ∧
    (pd = [] ∨ ∃ d, pd = [d] ∧ (d ∈ wordL ∨ d ∈ punctL)) ∧ (e = true → pd = [] ∧ i = K.x.length)
theorem word_ne : ∀ c ∈ wordL, c ≠ 32 ∧ ¬ c ∈ punctL := by decide +kernel
theorem punct_ne : ∀ c ∈ punctL, c ≠ 32 := by decide +kernel
theorem RtPost.f {p : Params} {K : LexK} {news : List (Addr × Obj)} {t pd r : List Nat} {t' ts tt : Tok} {pv : List Value} {pk : Int} {i : Nat} {ti : Tok}
    (h1 : StrsAre pv (pd.map fun c => ⟨#[c]⟩)) (h2 : i ≤ K.x.length) (h3 : K.x.cps.toList.drop i = r) (h4 : pd = [] ∨ ∃ d, pd = [d] ∧ (d ∈ wordL ∨ d ∈ punctL)) :
    RtPost p K news t false pd r (.str (tokS t) t') (lexNews p K (.str (Str.ofString " ") ts) (.str (Str.ofString "") tt) pv pk i ti news) :=
  ⟨t', ts, tt, pv, pk, i, ti, rfl, rfl, h1, h2, h3, h4, fun h => nomatch h⟩
theorem RtPost.t {p : Params} {K : LexK} {news : List (Addr × Obj)} {t r : List Nat} {t' tt : Tok} {pk : Int} {i : Nat} {ti : Tok}
    (h2 : i = K.x.length) (h3 : K.x.cps.toList.drop i = r) :
    RtPost p K news t true [] r (.str (tokS t) t') (lexNews p K .none (.str (Str.ofString "") tt) [] pk i ti news) :=
  ⟨t', 0, tt, [], pk, i, ti, rfl, rfl, .nil, Nat.le_of_eq h2, h3, .inl rfl, fun _ => ⟨rfl, h2⟩⟩
structure K3 (c : Nat) (s w p : Bool) : Prop where
  sp : decide (c ∈ (Str.ofString " \t\x0d\n").cps.toList) = s
  wd : decide (c ∈ (Str.ofString "abcdfeghijklmnopqrstuvwxyzACEGIKMOQRSTUVWXYZ0123456789_~-./*?=").cps.toList) = w
  pu : decide (c ∈ (Str.ofString "BDFHJLNP").cps.toList) = p
  co : decide (c ∈ (Str.ofString "#").cps.toList) = false
  qu : decide (c ∈ (Str.ofString "'\"").cps.toList) = false
  nl : ((⟨#[c]⟩ : Str) == Str.ofString "\n") = false
structure K4 (c : Nat) (s w p : Bool) : Prop where
  hs : s = true → c = 32
  hw : w = true → c ∈ wordL
  hp : p = true → c ∈ punctL
  ns : s = false → c ≠ 32
  np : p = false → ¬ c ∈ punctL
  wp : w = true → p = false
  e1 : s = false → w = false → p = true
  e2 : s = false → p = false → w = true
theorem kind_ex {c : Nat} (h : c = 32 ∨ c ∈ wordL ∨ c ∈ punctL) : ∃ s w p, K3 c s w p ∧ K4 c s w p := by
  have hk : c ∈ 32 :: (wordL ++ punctL) := by
    rcases h with e | e | e
    · exact e ▸ .head _
    · exact .tail _ (List.mem_append.mpr (.inl e))
    · exact .tail _ (List.mem_append.mpr (.inr e))
  rcases kind_all c hk with ⟨e32, k1, k2, k3, k4, k5, k6⟩ | ⟨hw, k1, k2, k3, k4, k5, k6⟩ | ⟨hpu, k1, k2, k3, k4, k5, k6⟩
  · exact ⟨_, _, _, ⟨k1, k2, k3, k4, k5, k6⟩, ⟨fun _ => e32, fun h => (nomatch h), fun h => (nomatch h), fun h => (nomatch h), fun _ => of_decide_eq_false k3, fun h => (nomatch h), fun h => (nomatch h), fun h => (nomatch h)⟩⟩
  · exact ⟨_, _, _, ⟨k1, k2, k3, k4, k5, k6⟩, ⟨fun h => (nomatch h), fun _ => hw, fun h => (nomatch h), fun _ => (word_ne c hw).1, fun _ => (word_ne c hw).2, fun _ => rfl, fun _ h => (nomatch h), fun _ _ => rfl⟩⟩
  · exact ⟨_, _, _, ⟨k1, k2, k3, k4, k5, k6⟩, ⟨fun h => (nomatch h), fun h => (nomatch h), fun _ => hpu, fun _ => punct_ne c hpu, fun h => (nomatch h), fun h => (nomatch h), fun _ _ => rfl, fun _ h => (nomatch h)⟩⟩
theorem eq_nl {prog : Program} {w : World} {A : Around} {E : Value → Shared → Prop} {s : Shared} {u t : Tok} {c : Nat} {Q : Value → Shared → Prop} {a b d : Bool} (k : K3 c a b d) (h : Q (.bool false) s) :
    wpAny (model prog w) A (compareOp .Eq (.str ⟨#[c]⟩ u) (.str (Str.ofString "\n") t)) Q E s := by
  refine P.eq_str ?_
  have h1 := k.nl
  have : ((⟨#[c]⟩ : Str).cps.toList == (Str.ofString "\n").cps.toList) = false := by
    rw [beq_eq_false_iff_ne] at h1 ⊢
    intro e
    exact h1 (congrArg (fun l : List Nat => (⟨l.toArray⟩ : Str)) e)
  rw [this]; exact h
theorem lex_upd {p : Params} {K : LexK} {st tok st' tok' : Value} {pend : List Value} {pk : Int} {i : Nat} {ti : Tok} {news : List (Addr × Obj)} (hA : Apart K news) :
    Upd K.dx8 (dictOf (lexEs p K st tok) 20) (dictOf (lexEs p K st' tok') 20) (lexNews p K st tok pend pk i ti news) (lexNews p K st' tok' pend pk i ti news) := by
  obtain ⟨a1, a2, a3, a4, a5, a6, -, a8, -⟩ := hA
  have e1 : @Ne Nat K.dx9 K.dx8 := by lia
  have e2 : @Ne Nat K.x9 K.dx8 := by lia
  have e3 : @Ne Nat K.d4 K.dx8 := by lia
  have e4 : @Ne Nat K.d3 K.dx8 := by lia
  have e5 : @Ne Nat K.d2 K.dx8 := by lia
  exact .tail e5 (.tail e4 (.tail e3 (.tail e2 (.tail e1 (.tail (Nat.ne_of_gt a1) (.head a8))))))
section
variable {prog : Program} {w : World} {A : Around} {E : Value → Shared → Prop} {s : Shared} {h₀ : Heap} {L : Addr} {m : Str → Option Value} {news nw : List (Addr × Obj)} {K : LexK} {st tok v : Value} {pend : List Value} {pk : Int} {i : Nat} {ti : Tok} {name : Str} {attr : Option Value} {expr : Bool}
theorem lex_get {Q : Value → Shared → Prop} (F : Fr h₀ L s.heap m) (X : (hd.heap_39 w.params).In h₀) (N : News h₀ L s.heap nw) (hs : ∀ p ∈ lexNews w.params K st tok pend pk i ti news, p ∈ nw)
    (hg : plainGet (hd.heap_39 w.params) 835 name = true) (hh : hasDictIn (hd.heap_39 w.params) 835 = true) (ha : findIn (hd.heap_39 w.params) (.ref 835) name = some attr) (hn : noGet (hd.heap_39 w.params) attr = true)
    (hl : getL name (lexEs w.params K st tok) = some (some v)) (hv : handedIn v = true) (h : Q v { s with toks := s.toks + 1 }) :
    wpAny (model prog w) A (getAttr (.ref K.x8) name expr) Q E s :=
  get_own F X (InstAt.of_news (fun p hp => N p (hs p hp)) (.tail _ (.tail _ (.tail _ (.tail _ (.tail _ (.head _)))))) (.tail _ (.tail _ (.tail _ (.tail _ (.tail _ (.tail _ (.head _)))))))) hg hh ha hn hl hv h
theorem lex_setS {Q : Unit → Shared → Prop} (F : Fr h₀ L s.heap m) (X : (hd.heap_39 w.params).In h₀) (N : News h₀ L s.heap nw) (hA : Apart K news) (hs : ∀ p ∈ lexNews w.params K st tok pend pk i ti news, p ∈ nw)
    (k6 : findIn (hd.heap_39 w.params) (.ref 835) "__setattr__" = some (some (.builtin "object.__setattr__"))) (k7 : plainOver (hd.heap_39 w.params) 835 = true) (k8 : takerIn (hd.heap_39 w.params) 835 (Str.ofString "state") = some none) (k9 : hasDictIn (hd.heap_39 w.params) 835 = true)
    (h : ∀ h', Fr h₀ L h' m → News h₀ L h' (lexNews w.params K v tok pend pk i ti news) → Q () { s with heap := h', toks := s.toks + 2 }) :
    wpAny (model prog w) A (setAttr (.ref K.x8) (Str.ofString "state") v) Q E s := by
  have N' : News h₀ L s.heap (lexNews w.params K st tok pend pk i ti news) := fun p hp => N p (hs p hp)
  refine' set_dict (es := lexEs w.params K st tok) (n := 20) (es' := lexEs w.params K v tok) (n' := 20) F X N' (InstAt.of_news N' (.tail _ (.tail _ (.tail _ (.tail _ (.tail _ (.head _)))))) (.tail _ (.tail _ (.tail _ (.tail _ (.tail _ (.tail _ (.head _)))))))) rfl k6 k7 k8 k9 ?k10 ?k11 (lex_upd hA) (Nat.le_of_ble_eq_true rfl) h
  case k10 => k_get
  case k11 => k_put
theorem lex_setT {Q : Unit → Shared → Prop} (F : Fr h₀ L s.heap m) (X : (hd.heap_39 w.params).In h₀) (N : News h₀ L s.heap nw) (hA : Apart K news) (hs : ∀ p ∈ lexNews w.params K st tok pend pk i ti news, p ∈ nw)
    (k6 : findIn (hd.heap_39 w.params) (.ref 835) "__setattr__" = some (some (.builtin "object.__setattr__"))) (k7 : plainOver (hd.heap_39 w.params) 835 = true) (k8 : takerIn (hd.heap_39 w.params) 835 (Str.ofString "token") = some none) (k9 : hasDictIn (hd.heap_39 w.params) 835 = true)
    (h : ∀ h', Fr h₀ L h' m → News h₀ L h' (lexNews w.params K st v pend pk i ti news) → Q () { s with heap := h', toks := s.toks + 2 }) :
    wpAny (model prog w) A (setAttr (.ref K.x8) (Str.ofString "token") v) Q E s := by
  have N' : News h₀ L s.heap (lexNews w.params K st tok pend pk i ti news) := fun p hp => N p (hs p hp)
  refine' set_dict (es := lexEs w.params K st tok) (n := 20) (es' := lexEs w.params K st v) (n' := 20) F X N' (InstAt.of_news N' (.tail _ (.tail _ (.tail _ (.tail _ (.tail _ (.head _)))))) (.tail _ (.tail _ (.tail _ (.tail _ (.tail _ (.tail _ (.head _)))))))) rfl k6 k7 k8 k9 ?k10 ?k11 (lex_upd hA) (Nat.le_of_ble_eq_true rfl) h
  case k10 => k_get
  case k11 => k_put
end
end
section
set_option maxHeartbeats 8000000 in
theorem lex_prop0 {w : World} {K : LexK} {st tok : Value} {pend : List Value} {pk : Int} {i : Nat} {ti : Tok} {news : List (Addr × Obj)} {expr : Bool}
    {mean : ExcName → Option Value} {mg mb : Str → Option Value} {dp un : Nat} {gd : Option (List Code)} {cn : Str} {cs : Scope} {a : Addr} {ccd : Value} {cl : List (Str × Addr)} {outer : List Env} {A₀ : Around} {base h₀ : Heap} {L : Addr} {m : Str → Option Value} {s : Shared} {Q E : Value → Shared → Prop}
    (Bl : Below A₀ base outer h₀) (F : Fr h₀ L s.heap m) (X : (hd.heap_39 w.params).In h₀) (N : News h₀ L s.heap (lexNews w.params K st tok pend pk i ti news)) (T : Top hd.view_39 loose0 mean mg mb h₀) (hk : cs.kind = .function) (hdp : dp + 20 < recursionLimit) (hun : un + 200 < cLine)
    (ret : ∀ h' tk', Fr h₀ L h' m → News h₀ L h' (lexNews w.params K st tok pend pk i ti news) → Q (.str (Str.ofString "BDFHJLNP") K.pt) { s with heap := h', toks := tk' }) :
    wpAny (model PySem.Challenge.rw_ik0085_01.row.prog w) (ktrTop dp un gd cn cs L a ccd cl outer) (getAttr (.ref K.x8) (Str.ofString "punctuation_chars") expr) Q E s := by
  obtain ⟨ck, cs1, cs2, cs3⟩ := cs
  dsimp only at hk
  subst hk
  k_steps
  rename Fr _ _ _ _ => F9
  rename News _ _ _ _ => N9
  exact ret _ _ F9 N9
theorem lex_prop {w : World} {K : LexK} {st tok : Value} {pend : List Value} {pk : Int} {i : Nat} {ti : Tok} {news nw : List (Addr × Obj)} {expr : Bool}
    {mean : ExcName → Option Value} {mg mb : Str → Option Value} {dp un : Nat} {gd : Option (List Code)} {cn : Str} {cs : Scope} {a : Addr} {ccd : Value} {cl : List (Str × Addr)} {outer : List Env} {A₀ : Around} {base h₀ : Heap} {L : Addr} {m : Str → Option Value} {s : Shared} {Q E : Value → Shared → Prop}
    (Bl : Below A₀ base outer h₀) (F : Fr h₀ L s.heap m) (X : (hd.heap_39 w.params).In h₀) (N : News h₀ L s.heap nw) (T : Top hd.view_39 loose0 mean mg mb h₀) (hk : cs.kind = .function) (hdp : dp + 20 < recursionLimit) (hun : un + 200 < cLine)
    (hs : ∀ p ∈ lexNews w.params K st tok pend pk i ti news, p ∈ nw)
    (ret : ∀ h' tk', Fr h₀ L h' m → News h₀ L h' nw → Q (.str (Str.ofString "BDFHJLNP") K.pt) { s with heap := h', toks := tk' }) :
    wpAny (model PySem.Challenge.rw_ik0085_01.row.prog w) (ktrTop dp un gd cn cs L a ccd cl outer) (getAttr (.ref K.x8) (Str.ofString "punctuation_chars") expr) Q E s := by
  have e : ∀ {h : Heap}, News h₀ L h (lexNews w.params K st tok pend pk i ti nw) → News h₀ L h nw := fun n p hp => n p (.tail _ (.tail _ (.tail _ (.tail _ (.tail _ (.tail _ (.tail _ hp)))))))
  refine lex_prop0 (news := nw) (st := st) (tok := tok) (pend := pend) (pk := pk) (i := i) (ti := ti) Bl F X (fun p hp => ?_) T hk hdp hun fun h' tk' F' N' => ret h' tk' F' (e N')
  rcases List.mem_append.mp (show p ∈ lexNews w.params K st tok pend pk i ti [] ++ nw from hp) with hp | hp
  · exact N p (hs p (List.mem_append.mpr (.inl hp) |> fun (x : p ∈ lexNews w.params K st tok pend pk i ti [] ++ news) => x))
  · exact N p hp
end
section
theorem SecRtok.onRtok : True := True.intro
open SecRtok
theorem kw_Rtok_1 : True := by
  k_with "@Rtok" => guard_expr onRtok = onRtok
  k_with "ite" => (k_extra "@Rtok"; first | with_reducible refine ite_tt ?_ | with_reducible refine ite_ff ?_)
  k_with "execs nil" => (k_extra "@Rtok"; (with_reducible refine wpAny_execs_nil ?_))
  k_with "truthy ref" => (k_extra "@Rtok"; (k_here; (with_reducible show wpAny _ _ (truthy (Value.ref _)) _ _ _); k_dflt (refine' truth1_N ?z9ka ?z9kb ?_; (case z9ka => k_asm); (case z9kb => k_mem); k_whole)))
  k_with "truthy ref" => (k_extra "@Rtok"; (k_here; (with_reducible show wpAny _ _ (truthy (Value.ref _)) _ _ _); k_dflt (refine' truth0_N ?z9ka ?z9kb ?_; (case z9ka => k_asm); (case z9kb => k_mem); k_whole)))
  k_with "exec While Constant cons nil" => (k_extra "@Rtok"; refine Hold.of ?_)
  k_with "call ref" => (k_extra "@Rtok"; (k_here; (with_reducible show wpAny _ _ (call (Value.ref 646) _) _ _ _); k_dflt (refine' readC_N ?z9h1 ?z9h2 ?z9h3 ?z9k1 ?z9k2 ?z9k3 ?z9k4 ?z9k5 ?z9kK ?z9kd ?z9ku ?z9km ?z9kU ?_; k_extra "K5"; (case z9kK => exact rfl); (case z9kd => ktr_room); (case z9ku => ktr_units); (case z9km => k_mem); (case z9h1 => assumption); (case z9h2 => assumption); (case z9h3 => lia); (case z9kU => (intro n'; k_upd)); k_whole); intro h9 tk9 t9 ti9 F9 N9; (try dsimp only); (try k_fold)))
  k_with "call ref" => (k_extra "@Rtok"; (k_here; (with_reducible show wpAny _ _ (call (Value.ref 646) _) _ _ _); k_dflt (refine' readE_N ?z9h1 ?z9h2 ?z9h3 ?z9k1 ?z9k2 ?z9k3 ?z9k4 ?z9k5 ?z9kK ?z9kd ?z9ku ?z9km ?z9kU ?_; k_extra "K5"; (case z9kK => exact rfl); (case z9kd => ktr_room); (case z9ku => ktr_units); (case z9km => k_mem); (case z9h1 => assumption); (case z9h2 => assumption); (case z9h3 => lia); (case z9kU => (intro n'; k_upd)); k_whole); intro h9 tk9 t9 ti9 F9 N9; (try dsimp only); (try k_fold)))
  k_with "compareOp In str str" => (k_extra "@Rtok"; (k_here; (with_reducible show wpAny _ _ (compareOp _ (Value.str (Str.ofString "a") _) (Value.str (Str.ofString "'\"") _)) _ _ _); (with_reducible refine aq ?_)))
  k_with "compareOp In str str" => (k_extra "@Rtok"; (k_here; (with_reducible show wpAny _ _ (compareOp _ (Value.str (Str.ofString "c") _) (Value.str (Str.ofString "'\"") _)) _ _ _); (with_reducible refine cq ?_)))
  k_with "compareOp In str str" => (k_extra "@Rtok"; (k_here; (with_reducible show wpAny _ _ (compareOp _ (Value.str (Str.ofString "a") _) (Value.str (Str.ofString "\\") _)) _ _ _); (with_reducible refine ae ?_)))
  k_with "compareOp In str str" => (k_extra "@Rtok"; (k_here; (with_reducible show wpAny _ _ (compareOp _ (Value.str (Str.ofString "c") _) (Value.str (Str.ofString "\\") _)) _ _ _); (with_reducible refine ce ?_)))
  k_with "truthy str" => (k_extra "@Rtok"; (k_here; (with_reducible show wpAny _ _ (truthy (Value.str (PySem.Str.mk (List.toArray (_ :: _))) _)) _ _ _); k_dflt (refine' truthy_tok ?z9kb ?_; (case z9kb => first | decide | lia); k_whole)))
  k_with "truthy str" => (k_extra "@Rtok"; (k_here; (with_reducible show wpAny _ _ (truthy (Value.str (PySem.Str.mk (List.toArray [_])) _)) _ _ _); (refine truthy_one ?_)))
  k_with "truthy str" => (k_extra "@Rtok"; (k_here; (with_reducible show wpAny _ _ (truthy (Value.str (Str.ofString "") _)) _ _ _); (refine truthy_emp ?_)))
  k_with "inplaceOp Add str str" => (k_extra "@Rtok"; (k_here; (with_reducible show wpAny _ _ (inplaceOp _ (Value.str (PySem.Str.mk (List.toArray (_ :: _))) _) (Value.str (PySem.Str.mk (List.toArray [_])) _)) _ _ _); k_dflt (refine' iadd_tok ?z9kb ?_; (case z9kb => lia); k_whole); intro t9 tk9; (try dsimp only)))
  k_with "getMethod ref" => (k_extra "@Rtok"; (k_here; (with_reducible show wpAny _ _ (getMethod (Value.ref _) (Str.ofString "append") _) _ _ _); k_dflt (refine' meth_append ?z9ka ?z9kb ?_; (case z9ka => k_asm); (case z9kb => k_mem); k_whole)))
  k_with "getMethod ref" => (k_extra "@Rtok"; (k_here; (with_reducible show wpAny _ _ (getMethod (Value.ref _) (Str.ofString "pop") _) _ _ _); k_dflt (refine' meth_pop ?z9ka ?z9kb ?_; (case z9ka => k_asm); (case z9kb => k_mem); k_whole)))
  k_with "call builtin:collections.deque.append" => (k_extra "@Rtok"; (k_here; k_dflt (refine' append1_N ?z9ka ?z9kb ?z9kU ?_; (case z9ka => k_asm); (case z9kb => k_asm); (case z9kU => k_upd); k_whole); intro h9 F9 N9; (try dsimp only); (try k_fold)))
  k_with "call builtin:collections.deque.pop" => (k_extra "@Rtok"; (k_here; k_dflt (refine' pop1_N ?z9ka ?z9kb ?z9kU ?_; (case z9ka => k_asm); (case z9kb => k_asm); (case z9kU => k_upd); k_whole); intro h9 F9 N9; (try dsimp only); (try k_fold)))
  k_with "WPost" => (k_extra "@Rtok"; (with_reducible refine WPost.ofBrk ?_))
  k_with "getAttr ref" => (k_extra "@Rtok"; (k_here; k_dflt (refine' get_own ?z9k1 ?z9k2 ?z9k3 ?z9k4 ?z9k5 ?z9k6 ?z9k7 ?z9k8 ?z9k9 ?_; (case z9k1 => k_asm); (case z9k2 => k_asm); (case z9k3 => k_inst); (case z9k4 => k_is); (case z9k5 => k_is); (case z9k6 => k_is); (case z9k7 => k_is); (case z9k8 => k_get); (case z9k9 => k_handed); k_whole)))
  k_with "exec If" => (k_extra "@Rtok"; (with_reducible refine if_gen ?_; intro _ _ _))
  k_with "Bst" => (k_extra "@Rtok"; first | (with_reducible refine Bst.out ?_; with_reducible apply_assumption -exfalso -symm) | (with_reducible refine Bst.split ?_ ?_ <;> (intro _; with_reducible apply_assumption -exfalso -symm)))
  k_with "compareOp In str str" => (k_extra "@Rtok"; (k_here; (with_reducible show wpAny _ _ (compareOp _ (Value.str (PySem.Str.mk (List.toArray [_])) _) (Value.str _ _)) _ _ _); k_dflt (refine' in_oneB ?z9kb ?_; (case z9kb => with_reducible first | exact K3.sp (by assumption) | exact K3.wd (by assumption) | exact K3.co (by assumption) | exact K3.qu (by assumption) | exact (K3.pu (by assumption)).trans (K4.e1 (by assumption) (by assumption) (by assumption)) | exact K3.pu (by assumption)); k_whole)))
  k_with "compareOp NotIn str str" => (k_extra "@Rtok"; (k_here; (with_reducible show wpAny _ _ (compareOp _ (Value.str (PySem.Str.mk (List.toArray [_])) _) (Value.str _ _)) _ _ _); k_dflt (refine' notin_oneB (b := false) ?z9kb ?_; (case z9kb => with_reducible exact (K3.sp (by assumption)).trans (by assumption)); k_whole)))
  k_with "compareOp Eq str str" => (k_extra "@Rtok"; (k_here; (with_reducible show wpAny _ _ (compareOp _ (Value.str (PySem.Str.mk (List.toArray [_])) _) (Value.str (Str.ofString "\n") _)) _ _ _); k_dflt (refine' eq_nl ?z9kb ?_; (case z9kb => with_reducible assumption); k_whole)))
  k_with "getAttr ref" => (k_extra "@Rtok"; (k_here; (with_reducible show wpAny _ _ (getAttr (Value.ref (LexK.x8 _)) _ _) _ _ _); k_dflt (refine' lex_get ?z9k1 ?z9k2 ?z9k3 ?z9hs ?z9k4 ?z9k5 ?z9k6 ?z9k7 ?z9k8 ?z9k9 ?_; k_extra "K3"; (case z9hs => first | exact fun _ hp => hp | exact fun _ hp => .tail _ hp); (case z9k4 => k_is); (case z9k5 => k_is); (case z9k6 => k_is); (case z9k7 => k_is); (case z9k8 => k_get); (case z9k9 => k_handed); k_whole)))
  k_with "setAttr ref" => (k_extra "@Rtok"; (k_here; (with_reducible show wpAny _ _ (setAttr (Value.ref (LexK.x8 _)) (Str.ofString "state") _) _ _ _); k_dflt (refine' lex_setS ?z9k1 ?z9k2 ?z9k3 ?z9kA ?z9hs ?z9k6 ?z9k7 ?z9k8 ?z9k9 ?_; k_extra "K3"; (case z9kA => with_reducible assumption); (case z9hs => first | exact fun _ hp => hp | exact fun _ hp => .tail _ hp); (case z9k6 => k_is); (case z9k7 => k_is); (case z9k8 => k_is); (case z9k9 => k_is); k_whole; intro h' F' N'; (try k_sweep))))
  k_with "setAttr ref" => (k_extra "@Rtok"; (k_here; (with_reducible show wpAny _ _ (setAttr (Value.ref (LexK.x8 _)) (Str.ofString "token") _) _ _ _); k_dflt (refine' lex_setT ?z9k1 ?z9k2 ?z9k3 ?z9kA ?z9hs ?z9k6 ?z9k7 ?z9k8 ?z9k9 ?_; k_extra "K3"; (case z9kA => with_reducible assumption); (case z9hs => first | exact fun _ hp => hp | exact fun _ hp => .tail _ hp); (case z9k6 => k_is); (case z9k7 => k_is); (case z9k8 => k_is); (case z9k9 => k_is); k_whole; intro h' F' N'; (try k_sweep))))
  k_with "getAttr ref" => (k_extra "@Rtok"; (k_here; (with_reducible show wpAny _ _ (getAttr (Value.ref (LexK.x8 _)) (Str.ofString "punctuation_chars") _) _ _ _); k_dflt (refine' lex_prop ?z9k1 ?z9k2 ?z9k3 ?z9k4 ?z9k5 ?z9kK ?z9kd ?z9ku ?z9hs ?_; k_extra "K5"; (case z9kK => exact rfl); (case z9kd => ktr_room); (case z9ku => ktr_units); (case z9hs => first | exact fun _ hp => hp | exact fun _ hp => .tail _ hp); k_whole); intro h9 tk9 F9 N9; (try dsimp only); (try k_fold)))
  k_with "Stm" => (k_extra "@Rtok"; first | (with_reducible refine Stm.out ?_; with_reducible apply_assumption -exfalso -symm) | (refine Hold.of ?_))
  trivial
noncomputable abbrev RtS := Nat × List Nat × Tok × Tok × List Value × List Nat × Int × Nat × Tok
noncomputable abbrev RtLed (p : Params) (K : LexK) (news : List (Addr × Obj)) (c : RtS) : List (Addr × Obj) := lexNews p K (stV c.1 c.2.2.1) (.str (tokS c.2.1) c.2.2.2.1) c.2.2.2.2.1 c.2.2.2.2.2.2.1 c.2.2.2.2.2.2.2.1 c.2.2.2.2.2.2.2.2 news
noncomputable abbrev RtPs (K : LexK) (_ : RtS) : List (Str × Value) := [(Str.ofString "self", .ref K.x8), (Str.ofString "quoted", .bool false)]
noncomputable abbrev RtOk (K : LexK) (R : List Nat × Bool × List Nat × List Nat) (c : RtS) : Prop :=
  c.2.2.2.2.2.2.2.1 ≤ K.x.length ∧ StrsAre c.2.2.2.2.1 (c.2.2.2.2.2.1.map fun d => ⟨#[d]⟩) ∧ (c.2.2.2.2.2.1 = [] ∨ (c.1 = 0 ∧ ∃ d, c.2.2.2.2.2.1 = [d] ∧ (d ∈ wordL ∨ d ∈ punctL))) ∧ (c.1 = 0 ∨ c.1 = 3 → c.2.1 = []) ∧ (c.1 = 3 → c.2.2.2.2.2.1 = [] ∧ c.2.2.2.2.2.2.2.1 = K.x.length) ∧ c.1 ≤ 3 ∧
    (c.1 = 1 ∨ c.1 = 2 → ∃ a l, c.2.1 = a :: l ∧ l.length ≤ c.2.2.2.2.2.2.2.1) ∧ lexRun c.1 c.2.1 (c.2.2.2.2.2.1 ++ K.x.cps.toList.drop c.2.2.2.2.2.2.2.1) = R
noncomputable abbrev RtMu (K : LexK) (c : RtS) : Nat := c.2.2.2.2.2.1.length + (K.x.length - c.2.2.2.2.2.2.2.1)
structure TailR (w : World) (K : LexK) (news : List (Addr × Obj)) (P : Post) (h₀ : Heap) (L : Addr) (s : Shared) (j : Flow → Shared → Prop) : Prop where
  go : ∀ (h' : Heap) (tk' : Nat) (u : Str → Option Value) (sv : Value) (x : Str) (tt : Tok) (pv : List Value) (pk : Int) (i : Nat) (ti : Tok), Fr h₀ L h' (kstB u [(Str.ofString "self", .ref K.x8)]) → News h₀ L h' (lexNews w.params K sv (.str x tt) pv pk i ti news) →
    (∀ tk, P (.str x tt) (lexNews w.params K sv (.str (Str.ofString "") tk) pv pk i ti news)) → j .next { s with heap := h', toks := tk' }
theorem with_tail {w : World} {K : LexK} {news : List (Addr × Obj)} {P : Post} {h₀ : Heap} {L : Addr} {s : Shared} {j : Flow → Shared → Prop} {m : Str → Option Value} {M : Model} {A : Around} {E : Value → Shared → Prop} {t : Sem Flow} (_F : Fr h₀ L s.heap m)
    (T : TailR w K news P h₀ L s j) (g : TailR w K news P h₀ L s j → wpAny M A t (Stm j) E s) : wpAny M A t (Stm j) E s := g T
set_option maxHeartbeats 8000000 in
theorem rtok (w : World) (K : LexK) (st : Nat) (t0 tt ti : Tok) (pend : List Nat) (pk : Int) (i : Nat) (pv : List Value) (news : List (Addr × Obj)) (t : List Nat) (e : Bool) (pd r : List Nat) (hx : K.x.length < 1000) (hi : i ≤ K.x.length) (hA : Apart K news)
    (hp : StrsAre pv (pend.map fun c => ⟨#[c]⟩)) (hl : pend = [] ∨ (st = 0 ∧ ∃ d, pend = [d] ∧ (d ∈ wordL ∨ d ∈ punctL))) (h3 : st = 3 → pend = [] ∧ i = K.x.length) (hst : st = 0 ∨ st = 3) (hok : LineOk K.x)
    (hr : lexRun st [] (pend ++ K.x.cps.toList.drop i) = (t, e, pd, r)) :
    Claim w 803 60 1000 (lexNews w.params K (stV st t0) (.str (Str.ofString "") tt) pv pk i ti news) [.ref K.x8] (RtPost w.params K news t e pd r) := by
  intro mean mg mb dp un gd cn cs a ccd cl outer A₀ base h₀ L m s Q E Bl F X N Tp hk hdp hun hret
  obtain ⟨ck, cs1, cs2, cs3⟩ := cs
  dsimp only at hk
  subst hk
  have hA9 := hA
  obtain ⟨a1, a2, a3, a4, a5, a6, a7, a8, a9⟩ := hA
  refine wpAny_call ?_
  k_enter
  k_steps
  refine Hold.to ?_
  rename Fr _ _ _ _ => F9
  rename News _ _ _ _ => N9
  refine with_tail (w := w) (K := K) (news := news) (P := RtPost w.params K news t e pd r) F9 ?_ fun tail => ?_
  · refine ⟨?_⟩
    intro h7 tk7 u7 sv7 x7 tt7 pv7 pk7 i7 ti7 F7 N7 hP7
    dsimp only [kstB] at F7
    clear F9 N9 hr h3 hl hp hi N hst
    with_reducible apply_assumption -exfalso -symm
    k_steps
    rename Fr h₀ _ _ _ => F9
    rename News h₀ _ _ _ => N9
    exact hret _ _ _ _ (hP7 _) F9 (kst_newsOf N9 (by first | exact fun _ hp => hp | exact fun _ hp => .tail _ hp))
  rename ∀ s, wpAny _ _ _ _ _ s → _ => hj9
  clear hj9
  refine whK (RtLed w.params K news) (RtPs K) (RtOk K (t, e, pd, r)) (RtMu K) ⟨st, [], t0, tt, pv, pend, pk, i, ti⟩ F9 (kst_newsOf N9 (by unfold RtLed; kst_in)) (by kst_all) ?_ ?_
  · dsimp only [RtOk]
    exact ⟨hi, hp, hl, fun _ => rfl, h3, by lia, fun h => absurd h (by lia), hr⟩
  · clear hr h3 hl hp hi N hst N9 F9
    rintro ⟨st, tok, t0, tt, pv, pend, pk, i, ti⟩ K9 u h tk hK9 hP F1 N1
    dsimp only [RtLed, RtPs, RtOk] at hP F1 N1 ⊢
    obtain ⟨hi, hps, hpe, h0, h3, hst, h12, hrun⟩ := hP
    obtain ⟨sv, hsv⟩ : ∃ sv, sv = stV st t0 := ⟨_, rfl⟩
    obtain ⟨tv, htv⟩ : ∃ tv, tv = Value.str (tokS tok) tt := ⟨_, rfl⟩
    rw [← hsv, ← htv] at N1
    rcases hpe with rfl | ⟨rfl, d, rfl, hd⟩
    · cases hps
      rw [List.nil_append] at hrun
      rcases Nat.lt_or_eq_of_le hi with hlt | heq
      · obtain ⟨c, hc⟩ : ∃ c, K.x.cps.toList[i]? = some c := ⟨_, List.getElem?_eq_getElem (by rw [Array.length_toList]; exact hlt)⟩
        have hcm := List.mem_of_getElem? hc
        obtain ⟨ks, kw, kp, k3, k4⟩ := kind_ex (hok c hcm)
        rw [drop_at hc] at hrun
        have h3' : st ≠ 3 := fun e => by have := (h3 e).2; lia
        clear hcm h3 hi
        k_steps
        obtain rfl | rfl | rfl : st = 0 ∨ st = 1 ∨ st = 2 := by lia
        · have := h0 (.inl rfl)
          subst this
          have e1 : sv = Value.str (Str.ofString " ") t0 := hsv
          have e2 : tv = Value.str (Str.ofString "") tt := htv
          clear hsv htv h0 h12 hst h3'
          subst e1 e2
          as_aux_lemma =>
            k_steps
            · rename ks = true => hs1
              rw [lexRun, if_pos (k4.hs hs1)] at hrun
              refine Hold.to ?_
              rename Fr _ _ _ _ => F9
              rename News _ _ _ _ => N9
              refine wend ⟨0, [], _, _, [], [], _, i + 1, _⟩ F9 N9 (by simp only [RtLed, stV_0, stV_1, stV_2, tokS_nil, tokS_cons]; exact fun _ hp => hp) (by kst_all) ⟨hlt, .nil, .inl rfl, ?_, fun h => absurd (show (0 : Nat) = 3 from h) (by decide), show (0 : Nat) ≤ 3 by decide, ?_, hrun⟩ (by dsimp only [RtMu, List.length_nil, List.length_cons]; omega)
              · exact fun _ => rfl
              · exact fun h => absurd (show (0 : Nat) = 1 ∨ (0 : Nat) = 2 from h) (by decide)
            · rename ks = false => hs1
              rename kw = true => hw1
              rw [lexRun, if_neg (k4.ns hs1), if_neg (k4.np (k4.wp hw1))] at hrun
              refine Hold.to ?_
              rename Fr _ _ _ _ => F9
              rename News _ _ _ _ => N9
              refine wend ⟨1, [c], _, _, [], [], _, i + 1, _⟩ F9 N9 (by simp only [RtLed, stV_0, stV_1, stV_2, tokS_nil, tokS_cons]; exact fun _ hp => hp) (by kst_all) ⟨hlt, .nil, .inl rfl, ?_, fun h => absurd (show (1 : Nat) = 3 from h) (by decide), show (1 : Nat) ≤ 3 by decide, ?_, hrun⟩ (by dsimp only [RtMu, List.length_nil, List.length_cons]; omega)
              · exact fun h => absurd (show (1 : Nat) = 0 ∨ (1 : Nat) = 3 from h) (by decide)
              · exact fun _ => ⟨_, _, rfl, by first | (simp; done) | (simp; lia)⟩
            · rename ks = false => hs1
              rename kw = false => hw1
              have hp1 := k4.e1 hs1 hw1
              rw [lexRun, if_neg (k4.ns hs1), if_pos (k4.hp hp1)] at hrun
              refine Hold.to ?_
              rename Fr _ _ _ _ => F9
              rename News _ _ _ _ => N9
              refine wend ⟨2, [c], _, _, [], [], _, i + 1, _⟩ F9 N9 (by simp only [RtLed, stV_0, stV_1, stV_2, tokS_nil, tokS_cons]; exact fun _ hp => hp) (by kst_all) ⟨hlt, .nil, .inl rfl, ?_, fun h => absurd (show (2 : Nat) = 3 from h) (by decide), show (2 : Nat) ≤ 3 by decide, ?_, hrun⟩ (by dsimp only [RtMu, List.length_nil, List.length_cons]; omega)
              · exact fun h => absurd (show (2 : Nat) = 0 ∨ (2 : Nat) = 3 from h) (by decide)
              · exact fun _ => ⟨_, _, rfl, by first | (simp; done) | (simp; lia)⟩
        · obtain ⟨a, l, rfl, hal⟩ := h12 (.inl rfl)
          have e1 : sv = Value.str (Str.ofString "a") t0 := hsv
          have e2 : tv = Value.str ⟨(a :: l).toArray⟩ tt := htv
          clear hsv htv h0 h12 hst h3'
          subst e1 e2
          as_aux_lemma =>
            k_steps
            · rename ks = true => hs1
              rw [lexRun, if_pos (k4.hs hs1)] at hrun
              injection hrun with q1 q2; injection q2 with q2 q3; injection q3 with q3 q4; subst q1 q2 q3 q4
              refine Hold.to ?_
              rename Fr _ _ _ _ => F9
              rename News _ _ _ _ => N9
              exact tail.go _ _ _ _ _ _ _ _ _ _ (frTell F9 _ (by kst_all)) N9 fun tk => RtPost.f (t := a :: l) .nil (i := i + 1) hlt rfl (.inl rfl)
            · rename ks = false => hs1
              rename kw = true => hw1
              rw [lexRun, if_neg (k4.ns hs1), if_neg (k4.np (k4.wp hw1))] at hrun
              refine Hold.to ?_
              rename Fr _ _ _ _ => F9
              rename News _ _ _ _ => N9
              refine wend ⟨1, (a :: (l ++ [c])), _, _, [], [], _, i + 1, _⟩ F9 N9 (by simp only [RtLed, stV_0, stV_1, stV_2, tokS_nil, tokS_cons]; first | exact fun _ hp => hp | exact fun _ hp => .tail _ hp) (by kst_all) ⟨hlt, .nil, .inl rfl, ?_, fun h => absurd (show (1 : Nat) = 3 from h) (by decide), show (1 : Nat) ≤ 3 by decide, ?_, hrun⟩ (by dsimp only [RtMu, List.length_nil, List.length_cons]; omega)
              · exact fun h => absurd (show (1 : Nat) = 0 ∨ (1 : Nat) = 3 from h) (by decide)
              · exact fun _ => ⟨_, _, rfl, by first | (simp; done) | (simp; lia)⟩
            · rename ks = false => hs1
              rename kw = false => hw1
              have hp1 := k4.e1 hs1 hw1
              rw [lexRun, if_neg (k4.ns hs1), if_pos (k4.hp hp1)] at hrun
              injection hrun with q1 q2; injection q2 with q2 q3; injection q3 with q3 q4; subst q1 q2 q3 q4
              refine Hold.to ?_
              rename Fr _ _ _ _ => F9
              rename News _ _ _ _ => N9
              exact tail.go _ _ _ _ _ _ _ _ _ _ (frTell F9 _ (by kst_all)) N9 fun tk => RtPost.f (t := a :: l) (.cons _ _ .nil) (i := i + 1) hlt rfl (.inr ⟨c, rfl, .inr (k4.hp hp1)⟩)
        · obtain ⟨a, l, rfl, hal⟩ := h12 (.inr rfl)
          have e1 : sv = Value.str (Str.ofString "c") t0 := hsv
          have e2 : tv = Value.str ⟨(a :: l).toArray⟩ tt := htv
          clear hsv htv h0 h12 hst h3'
          subst e1 e2
          as_aux_lemma =>
            k_steps
            · rename ks = true => hs1
              rw [lexRun, if_pos (k4.hs hs1)] at hrun
              injection hrun with q1 q2; injection q2 with q2 q3; injection q3 with q3 q4; subst q1 q2 q3 q4
              refine Hold.to ?_
              rename Fr _ _ _ _ => F9
              rename News _ _ _ _ => N9
              exact tail.go _ _ _ _ _ _ _ _ _ _ (frTell F9 _ (by kst_all)) N9 fun tk => RtPost.f (t := a :: l) .nil (i := i + 1) hlt rfl (.inl rfl)
            · rename ks = false => hs1
              rename kp = true => hp1
              rw [lexRun, if_neg (k4.ns hs1), if_pos (k4.hp hp1)] at hrun
              refine Hold.to ?_
              rename Fr _ _ _ _ => F9
              rename News _ _ _ _ => N9
              refine wend ⟨2, (a :: (l ++ [c])), _, _, [], [], _, i + 1, _⟩ F9 N9 (by simp only [RtLed, stV_0, stV_1, stV_2, tokS_nil, tokS_cons]; first | exact fun _ hp => hp | exact fun _ hp => .tail _ hp) (by kst_all) ⟨hlt, .nil, .inl rfl, ?_, fun h => absurd (show (2 : Nat) = 3 from h) (by decide), show (2 : Nat) ≤ 3 by decide, ?_, hrun⟩ (by dsimp only [RtMu, List.length_nil, List.length_cons]; omega)
              · exact fun h => absurd (show (2 : Nat) = 0 ∨ (2 : Nat) = 3 from h) (by decide)
              · exact fun _ => ⟨_, _, rfl, by first | (simp; done) | (simp; lia)⟩
            · rename ks = false => hs1
              rename kp = false => hp1
              have hw1 := k4.e2 hs1 hp1
              rw [lexRun, if_neg (k4.ns hs1), if_neg (k4.np hp1)] at hrun
              injection hrun with q1 q2; injection q2 with q2 q3; injection q3 with q3 q4; subst q1 q2 q3 q4
              refine Hold.to ?_
              rename Fr _ _ _ _ => F9
              rename News _ _ _ _ => N9
              exact tail.go _ _ _ _ _ _ _ _ _ _ (frTell F9 _ (by kst_all)) N9 fun tk => RtPost.f (t := a :: l) (.cons _ _ .nil) (i := i + 1) hlt rfl (.inr ⟨c, rfl, .inl (k4.hw hw1)⟩)
      · have hnil : K.x.cps.toList.drop i = [] := List.drop_eq_nil_of_le (by rw [Array.length_toList]; exact Nat.le_of_eq heq.symm)
        rw [hnil] at hrun
        have hrun : (tok, true, ([] : List Nat), ([] : List Nat)) = (t, e, pd, r) := by
          rw [← hrun]; obtain rfl | rfl | rfl | rfl : st = 0 ∨ st = 1 ∨ st = 2 ∨ st = 3 := by lia
          all_goals rfl
        injection hrun with q1 q2; injection q2 with q2 q3; injection q3 with q3 q4; subst q1 q2 q3 q4
        clear h3 hi
        k_steps
        obtain rfl | rfl | rfl | rfl : st = 0 ∨ st = 1 ∨ st = 2 ∨ st = 3 := by lia
        · have := h0 (.inl rfl)
          subst this
          have e1 : sv = Value.str (Str.ofString " ") t0 := hsv
          have e2 : tv = Value.str (Str.ofString "") tt := htv
          clear hsv htv h0 h12 hst
          subst e1 e2
          as_aux_lemma =>
            k_steps
            refine Hold.to ?_
            rename Fr _ _ _ _ => F9
            rename News _ _ _ _ => N9
            exact tail.go _ _ _ _ _ _ _ _ _ _ (frTell F9 _ (by kst_all)) N9 fun tk => RtPost.t (t := []) heq hnil
        · obtain ⟨a, l, rfl, hal⟩ := h12 (.inl rfl)
          have e1 : sv = Value.str (Str.ofString "a") t0 := hsv
          have e2 : tv = Value.str ⟨(a :: l).toArray⟩ tt := htv
          clear hsv htv h0 h12 hst
          subst e1 e2
          as_aux_lemma =>
            k_steps
            refine Hold.to ?_
            rename Fr _ _ _ _ => F9
            rename News _ _ _ _ => N9
            exact tail.go _ _ _ _ _ _ _ _ _ _ (frTell F9 _ (by kst_all)) N9 fun tk => RtPost.t (t := (a :: l)) heq hnil
        · obtain ⟨a, l, rfl, hal⟩ := h12 (.inr rfl)
          have e1 : sv = Value.str (Str.ofString "c") t0 := hsv
          have e2 : tv = Value.str ⟨(a :: l).toArray⟩ tt := htv
          clear hsv htv h0 h12 hst
          subst e1 e2
          as_aux_lemma =>
            k_steps
            refine Hold.to ?_
            rename Fr _ _ _ _ => F9
            rename News _ _ _ _ => N9
            exact tail.go _ _ _ _ _ _ _ _ _ _ (frTell F9 _ (by kst_all)) N9 fun tk => RtPost.t (t := (a :: l)) heq hnil
        · have := h0 (.inr rfl)
          subst this
          have e1 : sv = Value.none := hsv
          have e2 : tv = Value.str (Str.ofString "") tt := htv
          clear hsv htv h0 h12 hst
          subst e1 e2
          as_aux_lemma =>
            k_steps
            refine Hold.to ?_
            rename Fr _ _ _ _ => F9
            rename News _ _ _ _ => N9
            exact tail.go _ _ _ _ _ _ _ _ _ _ (frTell F9 _ (by kst_all)) N9 fun tk => RtPost.t (t := []) heq hnil
    · obtain ⟨td, rfl⟩ : ∃ td, pv = [.str ⟨#[d]⟩ td] := by cases hps with | cons x t h => cases h; exact ⟨_, rfl⟩
      have := h0 (.inl rfl)
      subst this
      have e1 : sv = Value.str (Str.ofString " ") t0 := hsv
      have e2 : tv = Value.str (Str.ofString "") tt := htv
      have hiP := hi
      obtain ⟨ks, kw, kp, k3, k4⟩ := kind_ex (.inr hd)
      clear hsv htv h0 h3 h12 hi hst
      subst e1 e2
      rw [List.singleton_append] at hrun
      as_aux_lemma =>
        k_steps
        · rename ks = true => hs1
          exfalso
          have e32 := k4.hs hs1
          subst e32
          revert hd
          decide +kernel
        · rename ks = false => hs1
          rename kw = true => hw1
          rw [lexRun, if_neg (k4.ns hs1), if_neg (k4.np (k4.wp hw1))] at hrun
          refine Hold.to ?_
          rename Fr _ _ _ _ => F9
          rename News _ _ _ _ => N9
          refine wend ⟨1, [d], _, _, [], [], _, i, _⟩ F9 N9 (by simp only [RtLed, stV_0, stV_1, stV_2, tokS_nil, tokS_cons]; exact fun _ hp => hp) (by kst_all) ⟨hiP, .nil, .inl rfl, ?_, fun h => absurd (show (1 : Nat) = 3 from h) (by decide), show (1 : Nat) ≤ 3 by decide, ?_, hrun⟩ (by dsimp only [RtMu, List.length_nil, List.length_cons]; omega)
          · exact fun h => absurd (show (1 : Nat) = 0 ∨ (1 : Nat) = 3 from h) (by decide)
          · exact fun _ => ⟨_, _, rfl, by first | (simp; done) | (simp; lia)⟩
        · rename ks = false => hs1
          rename kw = false => hw1
          have hp1 := k4.e1 hs1 hw1
          rw [lexRun, if_neg (k4.ns hs1), if_pos (k4.hp hp1)] at hrun
          refine Hold.to ?_
          rename Fr _ _ _ _ => F9
          rename News _ _ _ _ => N9
          refine wend ⟨2, [d], _, _, [], [], _, i, _⟩ F9 N9 (by simp only [RtLed, stV_0, stV_1, stV_2, tokS_nil, tokS_cons]; exact fun _ hp => hp) (by kst_all) ⟨hiP, .nil, .inl rfl, ?_, fun h => absurd (show (2 : Nat) = 3 from h) (by decide), show (2 : Nat) ≤ 3 by decide, ?_, hrun⟩ (by dsimp only [RtMu, List.length_nil, List.length_cons]; omega)
          · exact fun h => absurd (show (2 : Nat) = 0 ∨ (2 : Nat) = 3 from h) (by decide)
          · exact fun _ => ⟨_, _, rfl, by first | (simp; done) | (simp; lia)⟩
end
section
theorem SecGtok.onGtok : True := True.intro
open SecGtok
section
variable {prog : Program} {w : World} {A : Around} {E : Value → Shared → Prop} {s : Shared} {u t : Tok} {a : Nat} {l : List Nat}
theorem eq_tok_emp {Q : Value → Shared → Prop} (h : Q (.bool false) s) : wpAny (model prog w) A (compareOp .Eq (.str ⟨(a :: l).toArray⟩ u) (.str (Str.ofString "") t)) Q E s := by
  refine P.eq_str ?_
  rw [show (((⟨(a :: l).toArray⟩ : Str).cps.toList == (Str.ofString "").cps.toList) : Bool) = false from rfl]
  exact h
theorem eq_emp_emp {Q : Value → Shared → Prop} (h : Q (.bool true) s) : wpAny (model prog w) A (compareOp .Eq (.str (Str.ofString "") u) (.str (Str.ofString "") t)) Q E s := by
  refine P.eq_str ?_
  rw [show (((Str.ofString "").cps.toList == (Str.ofString "").cps.toList) : Bool) = true from rfl]
  exact h
end
theorem kw_Gtok_1 : True := by
  k_with "@Gtok" => guard_expr onGtok = onGtok
  k_with "truthy ref" => (k_extra "@Gtok"; (k_here; (with_reducible show wpAny _ _ (truthy (Value.ref _)) _ _ _); k_dflt (refine' truth0_N ?z9ka ?z9kb ?_; (case z9ka => k_asm); (case z9kb => k_mem); k_whole)))
  k_with "call ref" => (k_extra "@Gtok"; ((with_reducible show wpAny _ _ (call (Value.ref 803) _) _ _ _); refine Hold.of ?_))
  k_with "exec If" => (k_extra "@Gtok"; (with_reducible refine wpAny_If ?_))
  k_with "compareOp Eq str str" => (k_extra "@Gtok"; (k_here; (with_reducible show wpAny _ _ (compareOp _ (Value.str (PySem.Str.mk (List.toArray (_ :: _))) _) (Value.str (Str.ofString "") _)) _ _ _); (refine eq_tok_emp ?_)))
  k_with "compareOp Eq str str" => (k_extra "@Gtok"; (k_here; (with_reducible show wpAny _ _ (compareOp _ (Value.str (Str.ofString "") _) (Value.str (Str.ofString "") _)) _ _ _); (refine eq_emp_emp ?_)))
  trivial
set_option maxHeartbeats 8000000 in
theorem gtok (w : World) (K : LexK) (st : Nat) (t0 tt ti : Tok) (pend : List Nat) (pk : Int) (i : Nat) (pv : List Value) (news : List (Addr × Obj)) (t : List Nat) (e : Bool) (pd r : List Nat) (hx : K.x.length < 1000) (hi : i ≤ K.x.length) (hA : Apart K news)
    (hp : StrsAre pv (pend.map fun c => ⟨#[c]⟩)) (hl : pend = [] ∨ (st = 0 ∧ ∃ d, pend = [d] ∧ (d ∈ wordL ∨ d ∈ punctL))) (h3 : st = 3 → pend = [] ∧ i = K.x.length) (hst : st = 0 ∨ st = 3) (hok : LineOk K.x)
    (hr : lexRun st [] (pend ++ K.x.cps.toList.drop i) = (t, e, pd, r)) :
    Claim w 796 70 1300 (lexNews w.params K (stV st t0) (.str (Str.ofString "") tt) pv pk i ti news) [.ref K.x8] (RtPost w.params K news t e pd r) := by
  intro mean mg mb dp un gd cn cs a ccd cl outer A₀ base h₀ L m s Q E Bl F X N Tp hk hdp hun hret
  obtain ⟨ck, cs1, cs2, cs3⟩ := cs
  dsimp only at hk
  subst hk
  obtain ⟨a1, a2, a3, a4, a5, a6, a7, a8, a9⟩ := id hA
  refine wpAny_call ?_
  k_enter
  k_steps
  refine Hold.to ?_
  refine Claim.u7 (rtok w K st t0 tt ti pend pk i pv news t e pd r hx hi hA hp hl h3 hst hok hr) (by k_asm) (by k_asm) (by k_asm) (by k_asm) (by k_asm) (by exact rfl) (by ktr_room) (by ktr_units) ?_
  clear hi hp hl h3 hst hr N
  intro t' ts tt pv pk i ti h9 tk9 hR9 F9 N9
  have hp := hR9.1
  have hi := hR9.2.1
  have hr := hR9.2.2.1
  have hd := hR9.2.2.2.1
  have hE := hR9.2.2.2.2
  clear hR9
  have hpost := fun x => (⟨x, ts, tt, pv, pk, i, ti, rfl, rfl, hp, hi, hr, hd, hE⟩ : RtPost w.params K news t e pd r (.str (tokS t) x) _)
  generalize stV (if e = true then 3 else 0) ts = sv at N9 hpost
  clear hp hi hr hd hE
  (try dsimp only)
  (try k_fold)
  rcases t with _ | ⟨b, l⟩
  · simp only [tokS_nil] at F9 hpost ⊢
    k_steps
    refine Hold.to ?_
    rename Fr _ _ _ _ => F8
    rename News _ _ _ _ => N8
    refine wh (σ := Nat) (fun _ => lexNews w.params K sv (.str (Str.ofString "") tt) pv pk i ti news) (fun _ => [(Str.ofString "self", .ref K.x8), (Str.ofString "raw", .str (Str.ofString "") t')]) (fun _ => True) (fun n => n) 0 F8 (kst_newsOf N8 (by kst_in)) (by kst_all) trivial ?_
    intro _ u h tk _ F1 N1
    dsimp only [kstB] at F1 N1 ⊢
    (try k_fold)
    k_steps
    refine Hold.to ?_
    (try dsimp only [WPost])
    k_steps
    rename Fr h₀ _ _ _ => F7
    rename News h₀ _ _ _ => N7
    exact hret _ _ _ _ (hpost _) F7 (kst_newsOf N7 (by kst_in))
  · simp only [tokS_cons] at F9 hpost ⊢
    k_steps
    refine Hold.to ?_
    rename Fr _ _ _ _ => F8
    rename News _ _ _ _ => N8
    refine wh (σ := Nat) (fun _ => lexNews w.params K sv (.str (Str.ofString "") tt) pv pk i ti news) (fun _ => [(Str.ofString "self", .ref K.x8), (Str.ofString "raw", .str ⟨(b :: l).toArray⟩ t')]) (fun _ => True) (fun n => n) 0 F8 (kst_newsOf N8 (by kst_in)) (by kst_all) trivial ?_
    intro _ u h tk _ F1 N1
    dsimp only [kstB] at F1 N1 ⊢
    (try k_fold)
    k_steps
    rename Fr h₀ _ _ _ => F7
    rename News h₀ _ _ _ => N7
    exact hret _ _ _ _ (hpost _) F7 (kst_newsOf N7 (by kst_in))
end
section
theorem lexRun_len : ∀ (inp : List Nat) (st : Nat) (tok : List Nat), (lexRun st tok inp).1.length ≤ tok.length + inp.length + 1
  | [], st, tok => by
    have : lexRun st tok [] = (tok, true, [], []) := by cases st <;> simp [lexRun]
    rw [this]; simp
  | c :: r, st, tok => by
    match st with
    | 0 =>
      rw [lexRun]
      split
      · have := lexRun_len r 0 tok; simp only [List.length_cons]; lia
      · split
        · have := lexRun_len r 2 [c]; simp only [List.length_cons, List.length_nil] at this ⊢; lia
        · have := lexRun_len r 1 [c]; simp only [List.length_cons, List.length_nil] at this ⊢; lia
    | 1 =>
      rw [lexRun]
      split
      · dsimp only; lia
      · split
        · dsimp only; lia
        · have := lexRun_len r 1 (tok ++ [c]); simp only [List.length_cons, List.length_nil, List.length_append] at this ⊢; lia
    | 2 =>
      rw [lexRun]
      split
      · dsimp only; lia
      · split
        · have := lexRun_len r 2 (tok ++ [c]); simp only [List.length_cons, List.length_nil, List.length_append] at this ⊢; lia
        · dsimp only; lia
    | n + 3 =>
      rw [lexRun]
      · dsimp only; lia
      all_goals lia
structure LexSt (K : LexK) (st : Nat) (pend : List Nat) (pv : List Value) (i : Nat) : Prop where
  hi : i ≤ K.x.length
  hp : StrsAre pv (pend.map fun c => ⟨#[c]⟩)
  hl : pend = [] ∨ (st = 0 ∧ ∃ d, pend = [d] ∧ (d ∈ wordL ∨ d ∈ punctL))
  h3 : st = 3 → pend = [] ∧ i = K.x.length
  hst : st = 0 ∨ st = 3
noncomputable def GtPost (p : Params) (K : LexK) (news : List (Addr × Obj)) (t : List Nat) (e : Bool) (pd r : List Nat) : Post := fun v news' => ∃ t' ts tt pv pk i ti,
  v = .str (tokS t) t' ∧ news' = lexNews p K (stV (if e then 3 else 0) ts) (.str (Str.ofString "") tt) pv pk i ti news ∧ LexSt K (if e then 3 else 0) pd pv i ∧ K.x.cps.toList.drop i = r
theorem gtokT (w : World) (K : LexK) (st : Nat) (t0 tt ti : Tok) (pend : List Nat) (pk : Int) (i : Nat) (pv : List Value) (news : List (Addr × Obj)) (t : List Nat) (e : Bool) (pd r : List Nat) (hx : K.x.length < 1000) (hA : Apart K news)
    (hS : LexSt K st pend pv i) (hok : LineOk K.x) (hr : lexRun st [] (pend ++ K.x.cps.toList.drop i) = (t, e, pd, r)) :
    Claim w 796 70 1300 (lexNews w.params K (stV st t0) (.str (Str.ofString "") tt) pv pk i ti news) [.ref K.x8] (GtPost w.params K news t e pd r) := by
  have C := gtok w K st t0 tt ti pend pk i pv news t e pd r hx hS.hi hA hS.hp hS.hl hS.h3 hS.hst hok hr
  intro mean mg mb dp un gd cn cs a ccd cl outer A₀ base h₀ L m s Q E Bl F X N Tp hk hdp hun hret
  refine C mean mg mb dp un gd cn cs a ccd cl outer A₀ base h₀ L m s Q E Bl F X N Tp hk hdp hun ?_
  rintro v h' tk' news' ⟨t', ts, tt, pv, pk, i, ti, rfl, rfl, hp, hi, hr, hd, hE⟩ F' N'
  refine hret _ _ _ _ ⟨t', ts, tt, pv, pk, i, ti, rfl, rfl, ⟨hi, hp, ?_, ?_, ?_⟩, hr⟩ F' N'
  · cases e with
    | true => exact .inl (hE rfl).1
    | false =>
      rcases hd with h | h
      · exact .inl h
      · exact .inr ⟨rfl, h⟩
  · cases e with
    | true => exact fun _ => hE rfl
    | false => exact fun h => absurd (show (0 : Nat) = 3 from h) (by decide)
  · cases e with
    | true => exact .inr rfl
    | false => exact .inl rfl
structure RowD where
  a : Addr
  vs : List Value
  n : Nat
  toks : List (List Nat)
noncomputable abbrev RowD.obj (r : RowD) : Addr × Obj := (r.a, listOf r.vs.toArray r.n)
noncomputable abbrev RowD.ref (r : RowD) : Value := .ref r.a
noncomputable def rowLed (rs : List RowD) : List (Addr × Obj) := rs.map RowD.obj
structure RowOk (r : RowD) : Prop where
  ok : StrsAre r.vs (r.toks.map tokS)
noncomputable def RowsPost (fin : List (List (List Nat))) (news : List (Addr × Obj)) : Post := fun v news' => ∃ R nR rs,
  v = .ref R ∧ news' = (R, listOf (rs.map RowD.ref).toArray nR) :: (rowLed rs ++ news) ∧ rs.map RowD.toks = fin ∧ (∀ r ∈ rs, RowOk r)
theorem rowLed_snoc (rs : List RowD) (r : RowD) : rowLed (rs ++ [r]) = rowLed rs ++ [r.obj] := by unfold rowLed; simp
noncomputable def mkK (x9 dx9 x8 dx8 d2 d3 d4 : Nat) (k0 k1 k2 k3 k4 k5 k6 k7 k8 k9 k10 k11 k12 k13 k14 k15 k16 k17 k18 k19 k20 k21 k22 v3 v4 v5 v6 v8 v9 v10 v13 v14 pt : Tok) (x : Str) (t : Tok) : LexK :=
  ⟨x9, dx9, x8, dx8, d2, d3, d4, fun n => match n with | 0 => k0 | 1 => k1 | 2 => k2 | 3 => k3 | 4 => k4 | 5 => k5 | 6 => k6 | 7 => k7 | 8 => k8 | 9 => k9 | 10 => k10 | 11 => k11 | 12 => k12 | 13 => k13 | 14 => k14 | 15 => k15 | 16 => k16 | 17 => k17 | 18 => k18 | 19 => k19 | 20 => k20 | 21 => k21 | _ => k22,
    fun n => match n with | 3 => v3 | 4 => v4 | 5 => v5 | 6 => v6 | 8 => v8 | 9 => v9 | 10 => v10 | 13 => v13 | _ => v14, pt, x, t⟩
theorem lex_intro {h₀ h : Heap} {L : Addr} {p : Params} {x9 dx9 x8 dx8 d2 d3 d4 : Nat} {k0 k1 k2 k3 k4 k5 k6 k7 k8 k9 k10 k11 k12 k13 k14 k15 k16 k17 k18 k19 k20 k21 k22 v3 v4 v5 v6 v8 v9 v10 v13 v14 pt : Tok} {x : Str} {t ts tt ti : Tok} {news : List (Addr × Obj)}
    (N : News h₀ L h ((dx8, dictOf [⟨PyData.keyHash p (Str.ofString "instream"), .str (Str.ofString "instream") k0, .ref x9⟩,
   ⟨PyData.keyHash p (Str.ofString "infile"), .str (Str.ofString "infile") k1, .none⟩,
   ⟨PyData.keyHash p (Str.ofString "posix"), .str (Str.ofString "posix") k2, .bool false⟩,
   ⟨PyData.keyHash p (Str.ofString "eof"), .str (Str.ofString "eof") k3, .str (Str.ofString "") v3⟩,
   ⟨PyData.keyHash p (Str.ofString "commenters"), .str (Str.ofString "commenters") k4, .str (Str.ofString "#") v4⟩,
   ⟨PyData.keyHash p (Str.ofString "wordchars"), .str (Str.ofString "wordchars") k5, .str (Str.ofString "abcdfeghijklmnopqrstuvwxyzACEGIKMOQRSTUVWXYZ0123456789_~-./*?=") v5⟩,
   ⟨PyData.keyHash p (Str.ofString "whitespace"), .str (Str.ofString "whitespace") k6, .str (Str.ofString " \t\x0d\n") v6⟩,
   ⟨PyData.keyHash p (Str.ofString "whitespace_split"), .str (Str.ofString "whitespace_split") k7, .bool false⟩,
   ⟨PyData.keyHash p (Str.ofString "quotes"), .str (Str.ofString "quotes") k8, .str (Str.ofString "'\"") v8⟩,
   ⟨PyData.keyHash p (Str.ofString "escape"), .str (Str.ofString "escape") k9, .str (Str.ofString "\\") v9⟩,
   ⟨PyData.keyHash p (Str.ofString "escapedquotes"), .str (Str.ofString "escapedquotes") k10, .str (Str.ofString "\"") v10⟩,
   ⟨PyData.keyHash p (Str.ofString "state"), .str (Str.ofString "state") k11, .str (Str.ofString " ") ts⟩,
   ⟨PyData.keyHash p (Str.ofString "pushback"), .str (Str.ofString "pushback") k12, .ref d4⟩,
   ⟨PyData.keyHash p (Str.ofString "lineno"), .str (Str.ofString "lineno") k13, .int 1 v13⟩,
   ⟨PyData.keyHash p (Str.ofString "debug"), .str (Str.ofString "debug") k14, .int 0 v14⟩,
   ⟨PyData.keyHash p (Str.ofString "token"), .str (Str.ofString "token") k15, .str (Str.ofString "") tt⟩,
   ⟨PyData.keyHash p (Str.ofString "filestack"), .str (Str.ofString "filestack") k16, .ref d3⟩,
   ⟨PyData.keyHash p (Str.ofString "source"), .str (Str.ofString "source") k17, .none⟩,
   ⟨PyData.keyHash p (Str.ofString "_punctuation_chars"), .str (Str.ofString "_punctuation_chars") k18, .str (Str.ofString "BDFHJLNP") pt⟩,
   ⟨PyData.keyHash p (Str.ofString "_pushback_chars"), .str (Str.ofString "_pushback_chars") k19, .ref d2⟩] 20) :: (x8, instObj 835 dx8) :: (x9, instObj 700 dx9) :: (dx9, dictOf (sioEs p k20 k21 k22 x t 0 ti) 3) :: (d2, Dq.dqOf [] 0) :: (d3, Dq.dqOf [] 0) :: (d4, Dq.dqOf [] 0) :: news)) :
    News h₀ L h (lexNews p (mkK x9 dx9 x8 dx8 d2 d3 d4 k0 k1 k2 k3 k4 k5 k6 k7 k8 k9 k10 k11 k12 k13 k14 k15 k16 k17 k18 k19 k20 k21 k22 v3 v4 v5 v6 v8 v9 v10 v13 v14 pt x t) (stV 0 ts) (.str (Str.ofString "") tt) [] 0 0 ti news) := by
  intro p hp
  refine N p ?_
  rcases List.mem_cons.mp hp with e | hp
  · exact .tail _ (.tail _ (.tail _ (.tail _ (e ▸ .head _))))
  rcases List.mem_cons.mp hp with e | hp
  · exact .tail _ (.tail _ (.tail _ (.tail _ (.tail _ (e ▸ .head _)))))
  rcases List.mem_cons.mp hp with e | hp
  · exact .tail _ (.tail _ (.tail _ (.tail _ (.tail _ (.tail _ (e ▸ .head _))))))
  rcases List.mem_cons.mp hp with e | hp
  · exact .tail _ (.tail _ (e ▸ .head _))
  rcases List.mem_cons.mp hp with e | hp
  · exact .tail _ (.tail _ (.tail _ (e ▸ .head _)))
  rcases List.mem_cons.mp hp with e | hp
  · exact .tail _ (e ▸ .head _)
  rcases List.mem_cons.mp hp with e | hp
  · exact (e ▸ .head _)
  exact .tail _ (.tail _ (.tail _ (.tail _ (.tail _ (.tail _ (.tail _ hp))))))
section
variable {prog : Program} {w : World} {A : Around} {E : Value → Shared → Prop} {s : Shared} {u t : Tok} {a : Nat} {l : List Nat}
theorem eq_tok_x {b : Bool} {Q : Value → Shared → Prop} (hb : decide (a :: l = [120]) = b) (h : Q (.bool b) s) : wpAny (model prog w) A (compareOp .Eq (.str ⟨(a :: l).toArray⟩ u) (.str (Str.ofString "x") t)) Q E s := by
  refine P.eq_str ?_
  have e : (Str.ofString "x").cps.toList = [120] := by decide
  rw [show (⟨(a :: l).toArray⟩ : Str).cps.toList = a :: l from rfl, e]
  have : ((a :: l) == [120]) = decide (a :: l = [120]) := by rw [Bool.eq_iff_iff]; simp
  rw [this, hb]
  exact h
end
theorem toks_next {st : Nat} {inp : List Nat} {al : List (List Nat)} (h : Toks st inp al) : ∃ t e p r al', lexRun st [] inp = (t, e, p, r) ∧ t.length ≤ inp.length + 1 ∧ al = (if t = [] then [] else t :: al') ∧ (t ≠ [] → Toks (if e then 3 else 0) (p ++ r) al') := by
  have hl := lexRun_len inp st []
  cases h with
  | done h => exact ⟨[], _, _, _, [], h, by simp, rfl, fun q => absurd rfl q⟩
  | more h1 h2 h3 =>
    rw [h2] at hl
    exact ⟨_, _, _, _, _, h2, by simpa using hl, by rw [if_neg h1], fun _ => h3⟩
theorem lex_ex {h₀ h : Heap} {L : Addr} {p : Params} {x9 dx9 x8 dx8 d2 d3 d4 : Nat} {k0 k1 k2 k3 k4 k5 k6 k7 k8 k9 k10 k11 k12 k13 k14 k15 k16 k17 k18 k19 k20 k21 k22 v3 v4 v5 v6 v8 v9 v10 v13 v14 pt : Tok} {x : Str} {t ts tt ti : Tok} {news : List (Addr × Obj)}
    (N : News h₀ L h (lexNews p (mkK x9 dx9 x8 dx8 d2 d3 d4 k0 k1 k2 k3 k4 k5 k6 k7 k8 k9 k10 k11 k12 k13 k14 k15 k16 k17 k18 k19 k20 k21 k22 v3 v4 v5 v6 v8 v9 v10 v13 v14 pt x t) (stV 0 ts) (.str (Str.ofString "") tt) [] 0 0 ti news)) :
    ∃ K : LexK, K.x9 = x9 ∧ K.dx9 = dx9 ∧ K.x8 = x8 ∧ K.dx8 = dx8 ∧ K.d2 = d2 ∧ K.d3 = d3 ∧ K.d4 = d4 ∧ K.x = x ∧ News h₀ L h (lexNews p K (stV 0 ts) (.str (Str.ofString "") tt) [] 0 0 ti news) := ⟨_, rfl, rfl, rfl, rfl, rfl, rfl, rfl, rfl, N⟩
theorem rows_name {h₀ h : Heap} {L : Addr} {p : Params} {K : LexK} {st tok : Value} {pv : List Value} {pk : Int} {i : Nat} {ti : Tok} {a b : Addr} {o₁ o₂ : Obj} {news : List (Addr × Obj)} (_N : News h₀ L h (lexNews p K st tok pv pk i ti ((a, o₁) :: (b, o₂) :: news))) : ∃ R r0 : Nat, R = a ∧ r0 = b := ⟨a, b, rfl, rfl⟩
section
variable {prog : Program} {w : World} {A : Around} {E : Value → Shared → Prop} {s : Shared} {h₀ : Heap} {L : Addr} {m : Str → Option Value} {news : List (Addr × Obj)}
theorem item_last {value slice : PySem.Expr} {a : Addr} {l : List Value} {v : Value} {n : Nat} {u : Tok} {Q : Value → Shared → Prop} (N : News h₀ L s.heap news) (hm : (a, listOf (l ++ [v]).toArray n) ∈ news) (hz : l.length < 100000) (h : Q v s)
    (hs : subscripted slice false (.ref a) (.int (-1) u) = operate [.ref a, .int (-1) u] (getItem (.ref a) (.int (-1) u)) := by with_unfolding_all rfl) :
    wpAny (model prog w) A (subscriptTail value slice (.ref a) (.int (-1) u)) Q E s := by
  have e : (l ++ [v]).toArray.size = l.length + 1 := by simp
  refine item_listNneg N hm (by decide) (by rw [e]; lia) (by decide) ?_ h hs
  rw [e, show ((-1 : Int) + ((l.length + 1 : Nat) : Int)).toNat = l.length by lia]
  simp
end
theorem lex_mono {p : Params} {K : LexK} {st tok : Value} {pv : List Value} {pk : Int} {i : Nat} {ti : Tok} {l l' : List (Addr × Obj)} (h : ∀ q ∈ l, q ∈ l') : ∀ q ∈ lexNews p K st tok pv pk i ti l, q ∈ lexNews p K st tok pv pk i ti l' := by
  intro q hq
  rcases List.mem_cons.mp hq with e | hq
  · exact e ▸ .head _
  rcases List.mem_cons.mp hq with e | hq
  · exact .tail _ (e ▸ .head _)
  rcases List.mem_cons.mp hq with e | hq
  · exact .tail _ (.tail _ (e ▸ .head _))
  rcases List.mem_cons.mp hq with e | hq
  · exact .tail _ (.tail _ (.tail _ (e ▸ .head _)))
  rcases List.mem_cons.mp hq with e | hq
  · exact .tail _ (.tail _ (.tail _ (.tail _ (e ▸ .head _))))
  rcases List.mem_cons.mp hq with e | hq
  · exact .tail _ (.tail _ (.tail _ (.tail _ (.tail _ (e ▸ .head _)))))
  rcases List.mem_cons.mp hq with e | hq
  · exact .tail _ (.tail _ (.tail _ (.tail _ (.tail _ (.tail _ (e ▸ .head _))))))
  exact .tail _ (.tail _ (.tail _ (.tail _ (.tail _ (.tail _ (.tail _ (h q hq)))))))
theorem off_cons {z a : Nat} {o : Obj} {l : List (Addr × Obj)} (h : @Ne Nat a z) (hl : ∀ p ∈ l, p.1 ≠ z) : ∀ p ∈ (a, o) :: l, p.1 ≠ z := by
  intro p hp
  rcases List.mem_cons.mp hp with rfl | hp
  · exact h
  · exact hl p hp
theorem LexSt.len {K : LexK} {st : Nat} {pend : List Nat} {pv : List Value} {i : Nat} (h : LexSt K st pend pv i) : (pend ++ K.x.cps.toList.drop i).length ≤ K.x.length + 1 := by
  have h1 : pend.length ≤ 1 := by
    rcases h.hl with e | ⟨_, d, e, _⟩
    · rw [e]; decide
    · rw [e]; exact Nat.le_refl 1
  have h2 : K.x.cps.toList.length = K.x.length := by rw [Array.length_toList]; rfl
  rw [List.length_append, List.length_drop]
  lia
theorem callWith_h0 {w : World} {A : Around} {E : Value → Shared → Prop} {s : Shared} {env : Env} {pos : Pos} {f : Value} {first : List Value} {Q : Value → Shared → Prop} (X : (hd.heap_39 w.params).In s.heap) (hk : keepIn (hd.heap_39 w.params) f = true)
    (h : wpAny (model PySem.Challenge.rw_ik0085_01.row.prog w) A (call f (first ++ [])) Q E s) : wpAny (model PySem.Challenge.rw_ik0085_01.row.prog w) A (callWith pos f first (backTo pos (starEach [] env)) []) Q E s :=
  callWith_K0 X hk h
theorem lex_cons {h₀ h : Heap} {L : Addr} {p : Params} {K : LexK} {st tok : Value} {pv : List Value} {pk : Int} {i : Nat} {ti : Tok} {x : Addr × Obj} {l : List (Addr × Obj)} (N : News h₀ L h (x :: lexNews p K st tok pv pk i ti l)) : News h₀ L h (lexNews p K st tok pv pk i ti (x :: l)) := by
  intro q hq
  refine N q ?_
  rcases List.mem_cons.mp hq with e | hq
  · exact .tail _ (e ▸ .head _)
  rcases List.mem_cons.mp hq with e | hq
  · exact .tail _ (.tail _ (e ▸ .head _))
  rcases List.mem_cons.mp hq with e | hq
  · exact .tail _ (.tail _ (.tail _ (e ▸ .head _)))
  rcases List.mem_cons.mp hq with e | hq
  · exact .tail _ (.tail _ (.tail _ (.tail _ (e ▸ .head _))))
  rcases List.mem_cons.mp hq with e | hq
  · exact .tail _ (.tail _ (.tail _ (.tail _ (.tail _ (e ▸ .head _)))))
  rcases List.mem_cons.mp hq with e | hq
  · exact .tail _ (.tail _ (.tail _ (.tail _ (.tail _ (.tail _ (e ▸ .head _))))))
  rcases List.mem_cons.mp hq with e | hq
  · exact .tail _ (.tail _ (.tail _ (.tail _ (.tail _ (.tail _ (.tail _ (e ▸ .head _)))))))
  rcases List.mem_cons.mp hq with e | hq
  · exact e ▸ .head _
  exact .tail _ (.tail _ (.tail _ (.tail _ (.tail _ (.tail _ (.tail _ (.tail _ hq)))))))
theorem off_snoc {z : Nat} {fr : List RowD} {r : RowD} {news : List (Addr × Obj)} (h : ∀ p ∈ rowLed fr ++ news, p.1 ≠ z) (hr : @Ne Nat r.a z) : ∀ p ∈ rowLed (fr ++ [r]) ++ news, p.1 ≠ z := by
  intro p hp
  rw [rowLed_snoc, List.append_assoc] at hp
  rcases List.mem_append.mp hp with hp | hp
  · exact h p (List.mem_append.mpr (.inl hp))
  · rcases List.mem_cons.mp hp with rfl | hp
    · exact hr
    · exact h p (List.mem_append.mpr (.inr hp))
theorem oks_snoc {fr : List RowD} {r : RowD} (h : ∀ q ∈ fr, RowOk q) (hr : RowOk r) : ∀ q ∈ fr ++ [r], RowOk q := by
  intro q hq
  rcases List.mem_append.mp hq with hq | hq
  · exact h q hq
  · rw [List.mem_singleton.mp hq]; exact hr
theorem mem_rows {fr : List RowD} {r : RowD} {news : List (Addr × Obj)} {p x y : Addr × Obj} (hp : p ∈ rowLed (fr ++ [r]) ++ news) : p ∈ x :: y :: r.obj :: (rowLed fr ++ news) := by
  rw [rowLed_snoc, List.append_assoc] at hp
  rcases List.mem_append.mp hp with hp | hp
  · exact .tail _ (.tail _ (.tail _ (List.mem_append.mpr (.inl hp))))
  · rcases List.mem_cons.mp hp with e | hp
    · exact e ▸ .tail _ (.tail _ (.head _))
    · exact .tail _ (.tail _ (.tail _ (List.mem_append.mpr (.inr hp))))
end
section
noncomputable def mkR (p : Params) (f : Nat → Tok) : List (Str × Value) → List DictEntry
  | [] => []
  | (k, v) :: r => ⟨PyData.keyHash p k, .str k (f r.length), v⟩ :: mkR p f r
noncomputable def Ini (p : Params) (ks : List Str) (l : List (Str × Value)) (es : List DictEntry) : Prop := l.map Prod.fst = ks ∧ ks.Nodup ∧ ∃ f, es = (mkR p f l).reverse
theorem Ini.nil {p : Params} : Ini p [] [] [] := ⟨rfl, .nil, fun _ => 0, rfl⟩
theorem mkR_congr {p : Params} {f g : Nat → Tok} : ∀ {l : List (Str × Value)}, (∀ i, i < l.length → f i = g i) → mkR p f l = mkR p g l
  | [], _ => rfl
  | (k, v) :: r, h => by
    show _ :: mkR p f r = _ :: mkR p g r
    rw [mkR_congr (l := r) fun i hi => h i (Nat.lt_succ_of_lt hi), h r.length (Nat.lt_succ_self _)]
theorem mkR_len {p : Params} {f : Nat → Tok} : ∀ l : List (Str × Value), (mkR p f l).length = l.length
  | [] => rfl
  | _ :: r => congrArg Nat.succ (mkR_len r)
theorem mkR_no {p : Params} {f : Nat → Tok} {name : Str} : ∀ {l : List (Str × Value)}, name ∉ l.map Prod.fst → ∀ e ∈ mkR p f l, e.key.isStr name = false
  | [], _, _, h => nomatch h
  | (k, v) :: r, hn, e, h => by
    rcases List.mem_cons.mp h with rfl | h
    · have : k ≠ name := fun q => hn (q ▸ .head _)
      simpa [Value.isStr] using this
    · exact mkR_no (fun q => hn (.tail _ q)) e h
theorem mkR_ref {p : Params} {f : Nat → Tok} : ∀ {l : List (Str × Value)}, ∀ e ∈ mkR p f l, e.refKey = false
  | [], _, h => nomatch h
  | (k, v) :: r, e, h => by
    rcases List.mem_cons.mp h with rfl | h
    · rfl
    · exact mkR_ref e h
theorem putL_no {name : Str} {hsh : Int} {key v : Value} : ∀ {es : List DictEntry}, (∀ e ∈ es, e.key.isStr name = false) → ∀ r, putL name hsh key v (es ++ r) = es ++ putL name hsh key v r
  | [], _, _ => rfl
  | e :: es, h, r => by
    show (if e.key.isStr name then _ else e :: putL name hsh key v (es ++ r)) = e :: (es ++ putL name hsh key v r)
    rw [h e (.head _), if_neg (by decide), putL_no (fun e he => h e (.tail _ he)) r]
theorem putL_any {name : Str} {hsh : Int} {key v : Value} : ∀ {es : List DictEntry}, (∃ e ∈ es, e.key.isStr name = true) → ∀ r, putL name hsh key v (es ++ r) = putL name hsh key v es ++ r
  | [], h, _ => by obtain ⟨_, h, _⟩ := h; cases h
  | e :: es, h, r => by
    show (if e.key.isStr name then ⟨e.hash, e.key, v⟩ :: (es ++ r) else e :: putL name hsh key v (es ++ r)) = (if e.key.isStr name then ⟨e.hash, e.key, v⟩ :: es else e :: putL name hsh key v es) ++ r
    by_cases q : e.key.isStr name = true
    · rw [if_pos q, if_pos q]; rfl
    · rw [if_neg q, if_neg q, putL_any (es := es)]; rfl
      obtain ⟨x, hx, hy⟩ := h
      rcases List.mem_cons.mp hx with rfl | hx
      · exact absurd hy q
      · exact ⟨x, hx, hy⟩
theorem find_mk {p : Params} {f : Nat → Tok} {name : Str} {v : Value} : ∀ {l : List (Str × Value)}, (l.map Prod.fst).Nodup → (name, v) ∈ l → ∃ e, (mkR p f l).reverse.find? (·.key.isStr name) = some e ∧ e.val = v
  | [], _, h => nomatch h
  | (k, u) :: r, hn, h => by
    have hn' := List.nodup_cons.mp hn
    rw [show (mkR p f ((k, u) :: r)).reverse = (mkR p f r).reverse ++ [⟨PyData.keyHash p k, .str k (f r.length), u⟩] from List.reverse_cons, List.find?_append]
    rcases List.mem_cons.mp h with e | h
    · injection e with e1 e2
      subst e1 e2
      rw [List.find?_eq_none.mpr fun e he => by rw [mkR_no hn'.1 e (List.mem_reverse.mp he)]; decide]
      exact ⟨_, by simp [Value.isStr]; rfl, rfl⟩
    · obtain ⟨e, h1, h2⟩ := find_mk (p := p) (f := f) hn'.2 h
      exact ⟨e, by rw [h1]; rfl, h2⟩
theorem Ini.get {p : Params} {ks : List Str} {l : List (Str × Value)} {es : List DictEntry} {name : Str} {v : Value} (J : Ini p ks l es) (h : (name, v) ∈ l) : getL name es = some (some v) := by
  obtain ⟨rfl, hn, f, rfl⟩ := J
  obtain ⟨e, h1, h2⟩ := find_mk (p := p) (f := f) hn h
  unfold getL
  rw [h1, ← h2]
theorem Ini.out {p : Params} {ks : List Str} {l : List (Str × Value)} {es : List DictEntry} {name : Str} (J : Ini p ks l es) (h : ks.contains name = false) : getL name es = some none := by
  obtain ⟨rfl, hn, f, rfl⟩ := J
  have h' : name ∉ l.map Prod.fst := fun q => by rw [List.contains_iff_mem.mpr q] at h; cases h
  unfold getL
  rw [List.find?_eq_none.mpr fun e he => by rw [mkR_no h' e (List.mem_reverse.mp he)]; decide]
  dsimp only
  rw [if_neg]
  intro q
  obtain ⟨e, he, hr⟩ := List.any_eq_true.mp q
  rw [mkR_ref e (List.mem_reverse.mp he)] at hr
  cases hr
inductive Put (k : Str) (v : Value) : List (Str × Value) → List (Str × Value) → Prop
  | head {u r} : Put k v ((k, u) :: r) ((k, v) :: r)
  | tail {q r r'} : Put k v r r' → Put k v (q :: r) (q :: r')
theorem Put.keys {k : Str} {v : Value} {l l' : List (Str × Value)} (h : Put k v l l') : l'.map Prod.fst = l.map Prod.fst ∧ l'.length = l.length ∧ k ∈ l.map Prod.fst := by
  induction h with
  | head => exact ⟨rfl, rfl, .head _⟩
  | tail _ ih => exact ⟨congrArg (_ :: ·) ih.1, congrArg Nat.succ ih.2.1, .tail _ ih.2.2⟩
theorem mkR_any {p : Params} {f : Nat → Tok} {name : Str} : ∀ {l : List (Str × Value)}, name ∈ l.map Prod.fst → ∃ e ∈ mkR p f l, e.key.isStr name = true
  | [], h => nomatch h
  | (k, v) :: r, h => by
    rcases List.mem_cons.mp h with e | h
    · exact ⟨_, .head _, by simp [Value.isStr]; exact e.symm⟩
    · obtain ⟨e, h1, h2⟩ := mkR_any (p := p) (f := f) h
      exact ⟨e, .tail _ h1, h2⟩
theorem Put.mk {p : Params} {f : Nat → Tok} {k : Str} {v : Value} {hsh : Int} {key : Value} {l l' : List (Str × Value)} (h : Put k v l l') : (l.map Prod.fst).Nodup → putL k hsh key v (mkR p f l).reverse = (mkR p f l').reverse := by
  induction h with
  | @head u r =>
    intro hn
    have hn' := List.nodup_cons.mp hn
    show putL k hsh key v (_ :: mkR p f r).reverse = (_ :: mkR p f r).reverse
    rw [List.reverse_cons, List.reverse_cons, putL_no fun e he => mkR_no hn'.1 e (List.mem_reverse.mp he)]
    simp [putL, Value.isStr]
  | @tail q r r' h ih =>
    intro hn
    have hn' := List.nodup_cons.mp hn
    show putL k hsh key v (⟨_, _, q.2⟩ :: mkR p f r).reverse = (⟨_, _, q.2⟩ :: mkR p f r').reverse
    rw [h.keys.2.1, List.reverse_cons, List.reverse_cons, putL_any, ih hn'.2]
    obtain ⟨e, h1, h2⟩ := mkR_any (p := p) (f := f) h.keys.2.2
    exact ⟨e, List.mem_reverse.mpr h1, h2⟩
section
variable {prog : Program} {w : World} {A : Around} {E : Value → Shared → Prop} {s : Shared} {K : Frag} {x C dx L : Addr} {h₀ : Heap} {m : Str → Option Value} {news : List (Addr × Obj)} {news' : List DictEntry → List (Addr × Obj)} {ox : Obj} {ks : List Str} {l l' : List (Str × Value)} {es : List DictEntry} {n : Nat} {name : Str} {v : Value}
theorem ini_new {Q : Unit → Shared → Prop} (F : Fr h₀ L s.heap m) (X₀ : K.In h₀) (N : News h₀ L s.heap news) (I : InstAt s.heap x ox C (some (dictOf es n))) (hd : ox.dict = some dx)
    (hs : findIn K (.ref C) "__setattr__" = some (some (.builtin "object.__setattr__"))) (hp : plainOver K C = true) (ht : takerIn K C name = some none) (hh : hasDictIn K C = true)
    (J : Ini w.params ks l es) (hk : ks.contains name = false) (hz : Nat.ble (ks.length + 1) 1000 = true) (U : ∀ es', Upd dx (dictOf es n) (dictOf es' (n + 1)) news (news' es'))
    (h : ∀ es' h', Fr h₀ L h' m → News h₀ L h' (news' es') → Ini w.params (name :: ks) ((name, v) :: l) es' → Q () { s with heap := h', toks := s.toks + 2 }) :
    wpAny (model prog w) A (setAttr (.ref x) name v) Q E s := by
  have hl := J.out hk
  obtain ⟨rfl, hn, f, rfl⟩ := J
  have h' : name ∉ l.map Prod.fst := fun q => by rw [List.contains_iff_mem.mpr q] at hk; cases hk
  have hno : ∀ e ∈ (mkR w.params f l).reverse, e.key.isStr name = false := fun e he => mkR_no h' e (List.mem_reverse.mp he)
  have e1 : putL name (PyData.keyHash w.params name) (.str name (s.toks + 1)) v (mkR w.params f l).reverse = (mkR w.params (fun i => if i = l.length then s.toks + 1 else f i) ((name, v) :: l)).reverse := by
    have := putL_no (hsh := PyData.keyHash w.params name) (key := .str name (s.toks + 1)) (v := v) hno []
    rw [List.append_nil] at this
    rw [this]
    show _ = (_ :: mkR w.params _ l).reverse
    rw [List.reverse_cons, mkR_congr (l := l) (g := f) fun i hi => if_neg (Nat.ne_of_lt hi)]
    show _ ++ [_] = _ ++ [(⟨_, .str name (if l.length = l.length then s.toks + 1 else f l.length), v⟩ : DictEntry)]
    rw [if_pos rfl]
  have e2 : putN name (mkR w.params f l).reverse n = n + 1 := by
    unfold putN
    rw [if_neg]
    intro q
    obtain ⟨e, he, hr⟩ := List.any_eq_true.mp q
    rw [hno e he] at hr
    cases hr
  refine set_dict (es' := (mkR w.params (fun i => if i = l.length then s.toks + 1 else f i) ((name, v) :: l)).reverse) F X₀ N I hd hs hp ht hh (by rw [hl]; rfl) (Prod.ext e1 e2) (U _) ?_ fun h'' F' N' => h _ h'' F' N' ⟨rfl, List.nodup_cons.mpr ⟨h', hn⟩, _, rfl⟩
  have := Nat.le_of_ble_eq_true hz
  rw [List.length_map] at this
  show (mkR w.params _ ((name, v) :: l)).reverse.length ≤ 1000
  rw [List.length_reverse, mkR_len]
  exact this
theorem ini_old {Q : Unit → Shared → Prop} (F : Fr h₀ L s.heap m) (X₀ : K.In h₀) (N : News h₀ L s.heap news) (I : InstAt s.heap x ox C (some (dictOf es n))) (hd : ox.dict = some dx)
    (hs : findIn K (.ref C) "__setattr__" = some (some (.builtin "object.__setattr__"))) (hp : plainOver K C = true) (ht : takerIn K C name = some none) (hh : hasDictIn K C = true)
    (J : Ini w.params ks l es) (P : Put name v l l') (hz : Nat.ble ks.length 1000 = true) (U : ∀ es', Upd dx (dictOf es n) (dictOf es' n) news (news' es'))
    (h : ∀ es' h', Fr h₀ L h' m → News h₀ L h' (news' es') → Ini w.params ks l' es' → Q () { s with heap := h', toks := s.toks + 2 }) :
    wpAny (model prog w) A (setAttr (.ref x) name v) Q E s := by
  obtain ⟨k1, k2, k3⟩ := P.keys
  have hl : (getL name es).isSome = true := by
    obtain ⟨⟨a, b⟩, h1, h2⟩ := List.mem_map.mp k3
    dsimp only at h2
    subst h2
    rw [J.get h1]; rfl
  obtain ⟨rfl, hn, f, rfl⟩ := J
  have e2 : putN name (mkR w.params f l).reverse n = n := by
    unfold putN
    rw [if_pos]
    obtain ⟨e, h1, h2⟩ := mkR_any (p := w.params) (f := f) k3
    exact List.any_eq_true.mpr ⟨e, List.mem_reverse.mpr h1, h2⟩
  refine set_dict (es' := (mkR w.params f l').reverse) F X₀ N I hd hs hp ht hh hl (Prod.ext (P.mk hn) e2) (U _) ?_ fun h' F' N' => h _ h' F' N' ⟨k1, hn, f, rfl⟩
  have := Nat.le_of_ble_eq_true hz
  rw [List.length_map] at this
  rw [List.length_reverse, mkR_len, k2]
  exact this
end
theorem lex_exI {h₀ h : Heap} {L : Addr} {p : Params} {ks : List Str} {es : List DictEntry} {x9 dx9 x8 dx8 d2 d3 d4 : Nat} {k20 k21 k22 v3 v4 v5 v6 v8 v9 v10 v13 v14 pt : Tok} {x : Str} {t ts tt ti : Tok} {news : List (Addr × Obj)}
    (J : Ini p ks [(Str.ofString "_pushback_chars", .ref d2), (Str.ofString "_punctuation_chars", .str (Str.ofString "BDFHJLNP") pt), (Str.ofString "source", .none), (Str.ofString "filestack", .ref d3), (Str.ofString "token", .str (Str.ofString "") tt),
      (Str.ofString "debug", .int 0 v14), (Str.ofString "lineno", .int 1 v13), (Str.ofString "pushback", .ref d4), (Str.ofString "state", .str (Str.ofString " ") ts), (Str.ofString "escapedquotes", .str (Str.ofString "\"") v10), (Str.ofString "escape", .str (Str.ofString "\\") v9),
      (Str.ofString "quotes", .str (Str.ofString "'\"") v8), (Str.ofString "whitespace_split", .bool false), (Str.ofString "whitespace", .str (Str.ofString " \t\x0d\n") v6), (Str.ofString "wordchars", .str (Str.ofString "abcdfeghijklmnopqrstuvwxyzACEGIKMOQRSTUVWXYZ0123456789_~-./*?=") v5),
      (Str.ofString "commenters", .str (Str.ofString "#") v4), (Str.ofString "eof", .str (Str.ofString "") v3), (Str.ofString "posix", .bool false), (Str.ofString "infile", .none), (Str.ofString "instream", .ref x9)] es)
    (N : News h₀ L h ((dx8, dictOf es 20) :: (x8, instObj 835 dx8) :: (x9, instObj 700 dx9) :: (dx9, dictOf (sioEs p k20 k21 k22 x t 0 ti) 3) :: (d2, Dq.dqOf [] 0) :: (d3, Dq.dqOf [] 0) :: (d4, Dq.dqOf [] 0) :: news)) :
    ∃ K : LexK, K.x9 = x9 ∧ K.dx9 = dx9 ∧ K.x8 = x8 ∧ K.dx8 = dx8 ∧ K.d2 = d2 ∧ K.d3 = d3 ∧ K.d4 = d4 ∧ K.x = x ∧ News h₀ L h (lexNews p K (stV 0 ts) (.str (Str.ofString "") tt) [] 0 0 ti news) := by
  obtain ⟨-, -, f, rfl⟩ := J
  exact lex_ex (lex_intro (k0 := f 0) (k1 := f 1) (k2 := f 2) (k3 := f 3) (k4 := f 4) (k5 := f 5) (k6 := f 6) (k7 := f 7) (k8 := f 8) (k9 := f 9) (k10 := f 10) (k11 := f 11) (k12 := f 12) (k13 := f 13) (k14 := f 14) (k15 := f 15) (k16 := f 16) (k17 := f 17) (k18 := f 18) (k19 := f 19) N)
end
section
theorem SecRows.onRows : True := True.intro
open SecRows
theorem kw_Rows_1 : True := by
  k_with "@Rows" => guard_expr onRows = onRows
  k_with "getMethod" => (k_extra "@Rows"; (k_here; (with_reducible show wpAny _ _ (getMethod (Value.str _ _) (Str.ofString "translate") _) _ _ _); (refine getMethod_builtin (T := "str") (typeIs_str _ _ _) _root_.PySem.F.plainAttrs_str _root_.PySem.F.slot_str_translate _root_.PySem.F.type_str_translate (fun _ e => nomatch e) ?_)))
  k_with "getMethod type:dict" => (k_extra "@Rows"; (k_here; k_dflt (refine' Tr.fk_method ?z9ka ?z9kb ?z9kc ?z9kd ?_; (case z9ka => k_asm); (case z9kb => k_asm); (case z9kc => k_asm); (case z9kd => k_is); k_whole); intro x9 h9 F9 N9 l9; (k_lt l9); (try k_fold)))
  k_with "callWith ref" => (k_extra "@Rows"; (k_here; (with_reducible show wpAny _ _ (callWith _ (Value.ref _) [] (backTo _ (starEach [_] _)) []) _ _ _); k_dflt (refine' Tr.fk_callWith ?z9ka ?z9kb ?_; (case z9ka => k_asm); (case z9kb => k_mem); k_whole)))
  k_with "And" => (k_extra "@Rows"; ((with_reducible show Tr.FkAt _ _ ∧ _); k_dflt (refine ⟨(News.get (by k_asm) (by k_mem) : _), ?_⟩)))
  k_with "FkAt" => (k_extra "@Rows"; ((with_reducible show Tr.FkAt _ _); k_dflt (exact News.get (by k_asm) (by k_mem))))
  k_with "call ref" => (k_extra "@Rows"; (k_here; (with_reducible show wpAny _ _ (call (Value.ref _) [Value.str _ _]) _ _ _); k_dflt (refine' Tr.fromkeys_N ?z9ka ?z9kb ?z9kc ?z9kd ?z9ke ?z9kf ?z9kg ?_; (case z9ka => k_asm); (case z9kb => k_asm); (case z9kc => k_mem); (case z9kd => exact modules_low (Top.nolimit (by assumption))); (case z9ke => rfl); (case z9kf => decide); (case z9kg => decide); k_whole); intro d9 o9 h9 tk9 F9 N9 l9 hT9; (k_lt l9); (try k_fold)))
  k_with "getMethod" => (k_extra "@Rows"; (k_here; (with_reducible show wpAny _ _ (getMethod (Value.str _ _) (Str.ofString "maketrans") _) _ _ _); (refine Tr.method_mk ?_)))
  k_with "call builtin:str.maketrans" => (k_extra "@Rows"; (k_here; k_dflt (refine' Tr.maketrans_N ?z9ka ?z9kb ?z9kc ?z9kd ?z9kf ?z9kg ?z9kh ?_; (case z9ka => k_asm); (case z9kb => k_asm); (case z9kc => exact modules_low (Top.nolimit (by assumption))); (case z9kd => k_mem); (case z9kf => with_reducible assumption); (case z9kg => decide); (case z9kh => decide); k_whole); intro d9 o9 h9 tk9 F9 N9 l9 hT9; (k_lt l9); (try k_fold)))
  k_with "call builtin:str.translate" => (k_extra "@Rows"; (k_here; k_dflt (refine' Tr.translate_N (r := Str.ofString "abcdfeghijklmnopqrstuvwxyzACEGIKMOQRSTUVWXYZ0123456789_~-./*?=") ?z9ka ?z9kb ?z9kc ?z9ke ?z9kf ?z9kg ?z9kh ?z9ki ?z9kr ?_; (case z9ka => k_asm); (case z9kb => k_asm); (case z9kc => k_mem); (case z9ke => with_reducible assumption); (case z9kf => rfl); (case z9kg => decide +kernel); (case z9kh => decide +kernel); (case z9ki => decide +kernel); (case z9kr => kernel_rfl); k_whole); intro h9 tk9 t9 F9 N9; (try k_fold)))
  k_with "call type:collections.deque" => (k_extra "@Rows"; (k_here; k_dflt (refine' Dq.make_N ?z9kn ?z9km ?_; (case z9kn => k_asm); (case z9km => k_asm); k_whole); intro d9 h9 F9 N9 l9; (k_lt l9); (try k_fold)))
  k_with "truthy ref" => (k_extra "@Rows"; (k_here; (with_reducible show wpAny _ _ (truthy (Value.ref _)) _ _ _); k_dflt (refine' Dq.truth_N ?z9ka ?z9kb ?z9kc ?_; (case z9ka => k_asm); (case z9kb => k_mem); (case z9kc => decide); k_whole)))
  k_with "call ref" => (k_extra "@Rows"; (k_here; (with_reducible show wpAny _ _ (call (Value.ref 700) _) _ _ _); k_dflt (refine' Claim.u6 (sio _ _ _ _ ?z9kx) ?z9k1 ?z9k2 ?z9k3 ?z9k4 ?z9k5 ?z9kK ?z9kd ?z9ku ?_; k_extra "K5"; (case z9kK => first | exact rfl | assumption); (case z9kd => ktr_room); (case z9ku => ktr_units); (case z9kx => assumption)); intro x9 dx9 k19 k29 k39 ti9 h9 tk9 hR9 F9 N9; (have l9 := hR9.1); (have l8 := hR9.2); (k_lt l9); (k_lt2 l8); (try dsimp only); (try k_fold)))
  k_with "call ref" => (k_extra "@Rows"; ((with_reducible show wpAny _ _ (call (Value.ref 796) _) _ _ _); refine Hold.of ?_))
  k_with "truthy str" => (k_extra "@Rows"; (k_here; (with_reducible show wpAny _ _ (truthy (Value.str (PySem.Str.mk (List.toArray (_ :: _))) _)) _ _ _); k_dflt (refine' truthy_tok ?z9kb ?_; (case z9kb => first | decide | omega); k_whole)))
  k_with "truthy str" => (k_extra "@Rows"; (k_here; (with_reducible show wpAny _ _ (truthy (Value.str (Str.ofString "") _)) _ _ _); (refine truthy_emp ?_)))
  k_with "compareOp Eq str str" => (k_extra "@Rows"; (k_here; (with_reducible show wpAny _ _ (compareOp _ (Value.str (PySem.Str.mk (List.toArray (_ :: _))) _) (Value.str (Str.ofString "x") _)) _ _ _); k_dflt (refine' eq_tok_x ?z9kb ?_; (case z9kb => with_reducible assumption); k_whole)))
  k_with "exec If" => (k_extra "@Rows"; (with_reducible refine wpAny_If ?_))
  k_with "call builtin:list.append" => (k_extra "@Rows"; (k_here; (with_reducible show wpAny _ _ (call (Value.builtin _) [Value.ref _, _]) _ _ _); k_dflt (refine' append_K ?z9k1 ?z9k2 ?z9k3 ?_ ?z9z; (case z9k1 => k_asm); (case z9k2 => k_asm); (case z9k3 => k_upd); (case z9z => first | decide | ((rw [PySem.sizeLine_eq]); simp; omega)); k_whole); intro h' F' N'; (simp only [List.push_toArray] at N')))
  k_with "subscriptTail Name UnaryOp ref int" => (k_extra "@Rows"; (k_here; (with_reducible show wpAny _ _ (subscriptTail _ _ (Value.ref _) (Value.int (-1) _)) _ _ _); k_dflt (refine' item_last ?z9kn ?z9km ?z9kz ?_; (case z9kn => k_asm); (case z9km => k_mem); (case z9kz => first | decide | (simp; omega)); k_whole)))
  k_with "callWith ref" => (k_extra "@Rows"; (k_here; k_dflt (refine' callWith_h0 ?z9k1 ?z9k2 ?_; (case z9k1 => k_in_fast); (case z9k2 => k_is); k_whole)))
  k_with "memI" => (k_extra "@Rows"; first | with_reducible_and_instances assumption | with_reducible_and_instances exact List.Mem.head _ | (with_reducible_and_instances refine' List.Mem.tail _ ?z9a; (case z9a => k_extra "memI")))
  k_with "putI" => (k_extra "@Rows"; first | with_reducible exact Put.head | (with_reducible refine' Put.tail ?z9a; (case z9a => k_extra "putI")))
  k_with "setAttr ref" => (k_extra "@Rows"; (k_here; k_dflt (first | (refine' ini_new ?z9k1 ?z9k2 ?z9k3 ?z9k4 ?z9k5 ?z9k6 ?z9k7 ?z9k8 ?z9k9 ?z9kJ ?z9kk ?z9kz ?z9kU ?_; k_extra "K3"; (case z9k4 => k_inst); (case z9k5 => exact rfl); (case z9k6 => k_is); (case z9k7 => k_is); (case z9k8 => k_is); (case z9k9 => k_is); (case z9kJ => first | with_reducible assumption | exact Ini.nil); (case z9kk => decide +kernel); (case z9kz => exact rfl); (case z9kU => (intro es9; k_upd))) | (refine' ini_old ?z9k1 ?z9k2 ?z9k3 ?z9k4 ?z9k5 ?z9k6 ?z9k7 ?z9k8 ?z9k9 ?z9kJ ?z9kP ?z9kz ?z9kU ?_; k_extra "K3"; (case z9k4 => k_inst); (case z9k5 => exact rfl); (case z9k6 => k_is); (case z9k7 => k_is); (case z9k8 => k_is); (case z9k9 => k_is); (case z9kJ => with_reducible assumption); (case z9kP => k_extra "putI"); (case z9kz => exact rfl); (case z9kU => (intro es9; k_upd)))); k_whole; intro es9 h9 F9 N9 J9; (try k_sweep)))
  k_with "getAttr ref" => (k_extra "@Rows"; (k_here; (with_reducible rename Ini _ _ _ _ => J9); k_dflt (refine' get_own ?z9k1 ?z9k2 ?z9k3 ?z9k4 ?z9k5 ?z9k6 ?z9k7 ?z9k8 ?z9k9 ?_; (case z9k1 => k_asm); (case z9k2 => k_asm); (case z9k3 => k_inst); (case z9k4 => k_is); (case z9k5 => k_is); (case z9k6 => k_is); (case z9k7 => k_is); (case z9k8 => exact Ini.get J9 (by k_extra "memI")); (case z9k9 => k_handed); k_whole)))
  k_with "getMethod ref" => (k_extra "@Rows"; (k_here; (with_reducible rename Ini _ _ _ _ => J9); k_dflt (refine' method_inst ?z9k1 ?z9k2 ?z9k3 ?z9k4 ?z9k5 ?z9k6 ?z9k7 ?_; (case z9k1 => k_asm); (case z9k2 => k_asm); (case z9k3 => k_inst); (case z9k4 => k_is); (case z9k5 => k_is); (case z9k6 => k_is); (case z9k7 => exact Ini.out J9 (by decide +kernel)); k_whole)))
  trivial
structure RSt where
  st : Nat
  ts : Tok
  tt : Tok
  pv : List Value
  pend : List Nat
  pk : Int
  i : Nat
  ti : Tok
  cur : List Nat
  ct : Tok
  nR : Nat
  rl : Nat
  vs : List Value
  n : Nat
  last : List (List Nat)
  fr : List RowD
  al : List (List Nat)
noncomputable abbrev RSt.rest (c : RSt) : List (List Nat) := if c.cur = [] then [] else c.cur :: c.al
structure ROff (K : LexK) (R rl : Nat) (rest : List (Addr × Obj)) : Prop where
  o1 : ∀ p ∈ rest, p.1 ≠ K.dx9
  o2 : ∀ p ∈ rest, p.1 ≠ K.dx8
  o3 : ∀ p ∈ rest, p.1 ≠ K.d2
  o4 : ∀ p ∈ rest, p.1 ≠ rl
  o5 : ∀ p ∈ rest, p.1 ≠ R
structure RP (K : LexK) (R : Nat) (news : List (Addr × Obj)) (fin : List (List (List Nat))) (c : RSt) : Prop where
  lx : LexSt K c.st c.pend c.pv c.i
  fi : rowsOf c.rest (c.fr.map RowD.toks) c.last = fin
  tk : c.cur ≠ [] → Toks c.st (c.pend ++ K.x.cps.toList.drop c.i) c.al
  cl : c.cur.length ≤ 2000
  ok : StrsAre c.vs (c.last.map tokS)
  oks : ∀ r ∈ c.fr, RowOk r
  lt : K.d2 < c.rl
  ne : @Ne Nat R c.rl
  off : ROff K R c.rl (rowLed c.fr ++ news)
  sz : c.vs.length + c.fr.length + c.rest.length ≤ 1000
set_option maxHeartbeats 8000000 in
theorem rows (w : World) (x : Str) (t : Tok) (news : List (Addr × Obj)) (ts : List (List Nat)) (hx : x.length < 1000) (hok : LineOk x) (hT : Toks 0 x.cps.toList ts) (hts : ts.length < 1000) :
    Claim w 846 90 2000 news [.str x t] (RowsPost (rowsOf ts [] []) news) := by
  intro mean mg mb dp un gd cn cs a ccd cl outer A₀ base h₀ L m s Q E Bl F X N Tp hk hdp hun hret
  obtain ⟨ck, cs1, cs2, cs3⟩ := cs
  dsimp only at hk
  subst hk
  refine wpAny_call ?_
  k_enter
  k_steps
  refine Hold.to ?_
  rename Fr _ _ _ _ => F9
  rename News _ _ _ _ => N9
  rename Ini _ _ _ _ => J9
  have N8 := lex_exI (p := w.params) (x := x) (t := t) (news := (_, listOf (List.toArray [Value.ref _]) _) :: (_, listOf (List.toArray []) _) :: news) J9 (kst_newsOf N9 (by (repeat' (refine' List.forall_mem_cons.mpr ⟨?_, ?_⟩)) <;> first | k_extra "memI" | (intro p hp; k_extra "memI")))
  rename ∀ p ∈ news, p.1 < _ => hn
  obtain ⟨K, rfl, rfl, rfl, rfl, rfl, rfl, rfl, rfl, N7⟩ := N8
  clear J9 N9
  obtain ⟨R, r0, rfl, rfl⟩ := rows_name N7
  have c1 : K.dx8 < K.x8 := by k_extra "ord"
  have c2 : K.x8 < K.dx9 := by k_extra "ord"
  have c3 : K.dx9 < K.x9 := by k_extra "ord"
  have c4 : K.x9 < K.d4 := by k_extra "ord"
  have c5 : K.d4 < K.d3 := by k_extra "ord"
  have c6 : K.d3 < K.d2 := by k_extra "ord"
  have c7 : K.d2 < r0 := by k_extra "ord"
  have c8 : r0 < R := by k_extra "ord"
  have hAp : ∀ nw, (∀ p ∈ nw, p.1 ≠ K.dx9) → (∀ p ∈ nw, p.1 ≠ K.dx8) → (∀ p ∈ nw, p.1 ≠ K.d2) → Apart K nw := fun nw b1 b2 b3 => ⟨c1, c2, c3, c4, c5, c6, b1, b2, b3⟩
  have hof : ∀ z : Nat, K.dx8 ≤ z → ∀ p ∈ news, p.1 ≠ z := fun z hz p hp => Nat.ne_of_lt (Nat.lt_of_lt_of_le (hn p hp) hz)
  clear hn
  (repeat (first | (rename _ ∧ _ => hbad; clear hbad)))
  have S0 : LexSt K 0 [] [] 0 := ⟨Nat.zero_le _, .nil, .inl rfl, fun h => absurd h (by decide), .inl rfl⟩
  obtain ⟨t1, e1, p1, r1, al1, q1, q2, q3, q4⟩ := toks_next hT
  have A0 : Apart K ((R, listOf (List.toArray [Value.ref r0]) 0) :: (r0, listOf (List.toArray []) 0) :: news) := hAp _ (by intro p hp; rcases List.mem_cons.mp hp with rfl | hp; exact (by k_extra "ord" : @Ne Nat R K.dx9); rcases List.mem_cons.mp hp with rfl | hp; exact (by k_extra "ord" : @Ne Nat r0 K.dx9); exact hof _ (by k_extra "ord") p hp) (by intro p hp; rcases List.mem_cons.mp hp with rfl | hp; exact (by k_extra "ord" : @Ne Nat R K.dx8); rcases List.mem_cons.mp hp with rfl | hp; exact (by k_extra "ord" : @Ne Nat r0 K.dx8); exact hof _ (by k_extra "ord") p hp) (by intro p hp; rcases List.mem_cons.mp hp with rfl | hp; exact (by k_extra "ord" : @Ne Nat R K.d2); rcases List.mem_cons.mp hp with rfl | hp; exact (by k_extra "ord" : @Ne Nat r0 K.d2); exact hof _ (by k_extra "ord") p hp)
  refine' Claim.u7 (gtokT w K 0 _ _ _ [] 0 0 [] _ t1 e1 p1 r1 hx A0 S0 hok q1) ?y1 ?y2 ?y3 ?y4 ?y5 ?y6 ?y7 ?y8 ?_
  case y4 => exact N7
  case y2 => exact F9
  case y1 => k_asm
  case y3 => k_asm
  case y5 => k_asm
  case y6 => exact rfl
  case y7 => ktr_room
  case y8 => ktr_units
  intro t' ts' tt' pv' pk' i' ti' h9 tk9 hR9 F6 N6
  have hS := hR9.1
  have hdr := hR9.2
  clear hR9
  clear N7
  (try dsimp only)
  (try k_fold)
  k_steps
  refine Hold.to ?_
  rename Fr _ _ _ _ => F5
  rename News _ _ _ _ => N5
  refine whK (σ := RSt)
    (fun c => lexNews w.params K (stV c.st c.ts) (.str (Str.ofString "") c.tt) c.pv c.pk c.i c.ti ((R, listOf (c.fr.map RowD.ref ++ [Value.ref c.rl]).toArray c.nR) :: (c.rl, listOf c.vs.toArray c.n) :: (rowLed c.fr ++ news)))
    (fun c => [(Str.ofString "lexer", .ref K.x8), (Str.ofString "rows", .ref R), (Str.ofString "token", .str (tokS c.cur) c.ct)])
    (RP K R news (rowsOf ts [] [])) (fun c => c.rest.length) ⟨_, ts', tt', pv', p1, pk', i', ti', t1, t', 0, r0, [], 0, [], [], al1⟩ F5 N5 (by kst_all) ?_ ?_
  · refine ⟨hS, ?_, ?_, ?_, .nil, (fun _ h => nomatch h), c7, (by show @Ne Nat R r0; k_extra "ord"), ⟨hof K.dx9 (by k_extra "ord"), hof K.dx8 (by k_extra "ord"), hof K.d2 (by k_extra "ord"), hof r0 (by k_extra "ord"), hof R (by k_extra "ord")⟩, ?_⟩
    · dsimp only [RSt.rest]; rw [← q3]; rfl
    · intro h; have := q4 h; rw [← hdr] at this; exact this
    · have : K.x.cps.toList.length = K.x.length := by rw [Array.length_toList]; rfl
      show t1.length ≤ 2000
      lia
    · dsimp only [RSt.rest]; rw [← q3]; simp; lia
  · clear hS hdr q1 q2 q3 q4 A0 S0 hT N5 F5
    rintro ⟨st, ts', tt', pv', pend, pk', i', ti', cur, ct, nR, rl, vs, n, last, fr, al⟩ K9 u h tk hK9 hP9 F1 N1
    obtain ⟨lx, fi, tkk, cl, ok, oks, lt, ne, off, sz⟩ := hP9
    dsimp only [kstB, RSt.rest] at F1 N1 lx fi tkk cl ok oks lt ne off sz ⊢
    rcases cur with _ | ⟨b, l⟩
    · simp only [tokS_nil] at F1
      (try k_fold)
      k_steps
      rename Fr h₀ _ _ _ => F7
      rename News h₀ _ _ _ => N7
      refine hret _ _ _ _ ⟨R, nR, fr ++ [⟨rl, vs, n, last⟩], rfl, rfl, ?_, ?_⟩ F7 (kst_newsOf N7 ?_)
      · rw [← fi]; simp [rowsOf]
      · intro r hr
        rcases List.mem_append.mp hr with hr | hr
        · exact oks r hr
        · rw [List.mem_singleton.mp hr]; exact ⟨ok⟩
      · intro p hp
        rw [List.map_append, rowLed_snoc, List.append_assoc] at hp
        rcases List.mem_cons.mp hp with e | hp
        · exact e ▸ .tail _ (.tail _ (.tail _ (.tail _ (.tail _ (.tail _ (.tail _ (.head _)))))))
        · rcases List.mem_append.mp hp with hp | hp
          · exact .tail _ (.tail _ (.tail _ (.tail _ (.tail _ (.tail _ (.tail _ (.tail _ (.tail _ (List.mem_append.mpr (.inl hp))))))))))
          · rcases List.mem_cons.mp hp with e | hp
            · exact e ▸ .tail _ (.tail _ (.tail _ (.tail _ (.tail _ (.tail _ (.tail _ (.tail _ (.head _))))))))
            · exact .tail _ (.tail _ (.tail _ (.tail _ (.tail _ (.tail _ (.tail _ (.tail _ (.tail _ (List.mem_append.mpr (.inr hp))))))))))
    · simp only [tokS_cons] at F1
      have hne : (b :: l) ≠ [] := by simp
      rw [if_neg hne] at sz fi
      have hlen : l.length < 1000000 := by simp at cl; lia
      generalize hrest : rowLed fr ++ news = rest at N1 off
      obtain ⟨o1, o2, o3, o4, o5⟩ := off
      (try k_fold)
      obtain ⟨t2, e2, p2, r2, al2, q1, q2, q3, q4⟩ := toks_next (tkk hne)
      have hcl2 : t2.length ≤ 2000 := by have := lx.len; lia
      by_cases hx1 : b :: l = [120]
      · have hd : decide (b :: l = [120]) = true := decide_eq_true hx1
        rw [rowsOf, if_pos hx1] at fi
        k_steps
        refine Hold.to ?_
        rename News _ _ _ _ => N9
        obtain ⟨rn, rfl⟩ := head_name N9
        have g1 : R < rn := by k_extra "ord"
        have g2 : @Ne Nat rl rn := by k_extra "ord"
        rename _ ∧ _ => hlt
        (repeat (obtain ⟨_, hlt⟩ := hlt))
        have g3 : ∀ p ∈ rest, p.1 < rn := kst_ltOf hlt
        clear hlt
        refine Claim.u7 (gtokT w K st ts' tt' ti' pend pk' i' pv' ((rn, listOf [].toArray 0) :: (R, listOf (fr.map RowD.ref ++ [Value.ref rl] ++ [Value.ref rn]).toArray (nR + 1)) :: (rl, listOf vs.toArray n) :: rest) t2 e2 p2 r2 hx ?_ lx hok q1) (by k_asm) (by k_asm) (by k_asm) (lex_cons N9) (by k_asm) (by exact rfl) (by ktr_room) (by ktr_units) ?_
        · exact hAp _ (off_cons (by k_extra "ord") (off_cons (by k_extra "ord") (off_cons (by k_extra "ord") o1))) (off_cons (by k_extra "ord") (off_cons (by k_extra "ord") (off_cons (by k_extra "ord") o2))) (off_cons (by k_extra "ord") (off_cons (by k_extra "ord") (off_cons (by k_extra "ord") o3)))
        intro t' ts2 tt2 pv2 pk2 i2 ti2 h9 tk9 hR9 F6 N6
        have hS := hR9.1
        have hdr := hR9.2
        clear hR9
        clear N9
        (try dsimp only)
        (try k_fold)
        k_steps
        refine Hold.to ?_
        rename Fr _ _ _ _ => F9
        rename News _ _ _ _ => N9
        subst hrest
        refine wend ⟨_, ts2, tt2, pv2, p2, pk2, i2, ti2, t2, t', nR + 1, rn, [], 0, [], fr ++ [⟨rl, vs, n, last⟩], al2⟩ F9 N9 (lex_mono ?_) (by kst_all) ⟨hS, ?_, ?_, hcl2, .nil, oks_snoc oks ⟨ok⟩, ?_, ?_, ⟨off_snoc o1 ?_, off_snoc o2 ?_, off_snoc o3 ?_, off_snoc (fun p hp => Nat.ne_of_lt (g3 p hp)) ?_, off_snoc o5 ?_⟩, ?_⟩ ?_
        · intro q hq
          dsimp only at hq
          rw [List.map_append] at hq
          rcases List.mem_cons.mp hq with e | hq
          · rw [e]; exact .tail _ (.head _)
          · rcases List.mem_cons.mp hq with e | hq
            · rw [e]; exact .head _
            · exact mem_rows hq
        · show rowsOf (if t2 = [] then [] else t2 :: al2) ((fr ++ [(⟨rl, vs, n, last⟩ : RowD)]).map RowD.toks) [] = _
          rw [← q3, List.map_append]; exact fi
        · intro h; have := q4 h; rw [← hdr] at this; exact this
        · show K.d2 < rn; k_extra "ord"
        · show @Ne Nat R rn; k_extra "ord"
        · show @Ne Nat rl K.dx9; k_extra "ord"
        · show @Ne Nat rl K.dx8; k_extra "ord"
        · show @Ne Nat rl K.d2; k_extra "ord"
        · show @Ne Nat rl rn; k_extra "ord"
        · show @Ne Nat rl R; k_extra "ord"
        · show 0 + (fr ++ [_]).length + (if t2 = [] then [] else t2 :: al2).length ≤ 1000
          rw [← q3, List.length_append]; simp only [List.length_cons, List.length_nil] at sz ⊢; lia
        · show (if t2 = [] then [] else t2 :: al2).length < (if b :: l = [] then [] else (b :: l) :: al).length
          rw [← q3, if_neg hne]; simp
      · have hd : decide (b :: l = [120]) = false := decide_eq_false hx1
        rw [rowsOf, if_neg hx1] at fi
        k_steps
        refine Hold.to ?_
        rename News _ _ _ _ => N9
        refine Claim.u7 (gtokT w K st ts' tt' ti' pend pk' i' pv' ((R, listOf (fr.map RowD.ref ++ [Value.ref rl]).toArray nR) :: (rl, listOf (vs ++ [Value.str ⟨(b :: l).toArray⟩ ct]).toArray (n + 1)) :: rest) t2 e2 p2 r2 hx ?_ lx hok q1) (by k_asm) (by k_asm) (by k_asm) N9 (by k_asm) (by exact rfl) (by ktr_room) (by ktr_units) ?_
        · exact hAp _ (off_cons (by k_extra "ord") (off_cons (by k_extra "ord") o1)) (off_cons (by k_extra "ord") (off_cons (by k_extra "ord") o2)) (off_cons (by k_extra "ord") (off_cons (by k_extra "ord") o3))
        intro t' ts2 tt2 pv2 pk2 i2 ti2 h9 tk9 hR9 F6 N6
        have hS := hR9.1
        have hdr := hR9.2
        clear hR9
        clear N9
        (try dsimp only)
        (try k_fold)
        k_steps
        refine Hold.to ?_
        rename Fr _ _ _ _ => F9
        rename News _ _ _ _ => N9
        subst hrest
        refine wend ⟨_, ts2, tt2, pv2, p2, pk2, i2, ti2, t2, t', nR, rl, vs ++ [Value.str ⟨(b :: l).toArray⟩ ct], n + 1, last ++ [b :: l], fr, al2⟩ F9 N9 (lex_mono (fun _ h => h)) (by kst_all) ⟨hS, ?_, ?_, hcl2, ?_, oks, lt, ne, ⟨o1, o2, o3, o4, o5⟩, ?_⟩ ?_
        · show rowsOf (if t2 = [] then [] else t2 :: al2) (fr.map RowD.toks) (last ++ [b :: l]) = _
          rw [← q3]; exact fi
        · intro h; have := q4 h; rw [← hdr] at this; exact this
        · rw [List.map_append]; exact StrsAre.append' ok (.cons _ _ .nil)
        · show (vs ++ [_]).length + fr.length + (if t2 = [] then [] else t2 :: al2).length ≤ 1000
          rw [← q3, List.length_append]; simp only [List.length_cons, List.length_nil] at sz ⊢; lia
        · show (if t2 = [] then [] else t2 :: al2).length < (if b :: l = [] then [] else (b :: l) :: al).length
          rw [← q3, if_neg hne]; simp
end
section
/-! what the law's walk needs beside the contracts -/
section
variable {prog : Program} {w : World} {A : Around} {E : Value → Shared → Prop} {s : Shared} {h₀ : Heap} {L : Addr} {news : List (Addr × Obj)}
theorem join_N {D : Addr} {vs : List Value} {n : Nat} {ys : List Str} {x : Str} {t : Tok} {Q : Value → Shared → Prop} (N : News h₀ L s.heap news) (hm : (D, listOf vs.toArray n) ∈ news) (hi : StrsAre vs ys) (hok : (ys.map (·.length)).sum + ys.length * x.length ≤ 16777216)
    (h : ∀ t' k, Q (.str (Txt.join x ys) t') { s with toks := k }) : wpAny (model prog w) A (call (.builtin "str.join") [.str x t, .ref D]) Q E s :=
  join_list ⟨_, (N _ hm).1, rfl, n, rfl⟩ (by simpa using hi) hok h
theorem len5_N {D : Addr} {vs : List Value} {n : Nat} {Q : Value → Shared → Prop} (N : News h₀ L s.heap news) (hm : (D, listOf vs.toArray n) ∈ news) (h5 : vs.length = 5)
    (h : Q (.int 5 (s.toks + 1)) { s with toks := s.toks + 1 + 1 }) : wpAny (model prog w) A (call (.builtin "len") [.ref D]) Q E s := by
  have hl : s.heap.IsList D vs.toArray := ⟨_, (N _ hm).1, rfl, n, rfl⟩
  have e : vs.toArray.size = 5 := by simpa using h5
  refine PyProof.Rows.len_list hl (by rw [e]; decide) ?_
  rw [e]
  exact h
end
theorem apB_small (n : Nat) : (∀ b ∈ apB n, b.toNat < 128) ∧ (apB n).length ≤ 7 := by
  refine ⟨fun b hb => ?_, by unfold apB; rw [List.length_map]; exact digs_len 7 n⟩
  obtain ⟨d, hd, rfl⟩ := List.mem_map.mp hb
  have := digs_lt 7 n d hd
  rw [UInt8.toNat_ofNat']
  lia
theorem apB_codes (n : Nat) : Dec.codes (apB n) = wordOf n := by
  unfold Dec.codes apB wordOf
  rw [List.map_map]
  refine List.map_congr_left fun d hd => ?_
  have := digs_lt 7 n d hd
  show (UInt8.ofNat (65 + d)).toNat = 65 + d
  rw [UInt8.toNat_ofNat']
  lia
noncomputable def wordS (n : Nat) : Str := ⟨(wordOf n).toArray⟩
noncomputable def cut (z : Int) : Int := Int.fmod z 100000000
noncomputable def numZ (l : List Int) : List Int := ((l.take 5).map cut ++ [4660, 4951, 8501, 4678, 18]).take 5
noncomputable def numN (l : List Int) : List Nat := (numZ l).map Int.toNat
theorem numZ_len (l : List Int) : (numZ l).length = 5 := by unfold numZ; simp
theorem numZ_all (l : List Int) : ∀ z ∈ numZ l, 0 ≤ z ∧ z < 100000000 := by
  intro z hz
  have hz := List.mem_of_mem_take hz
  rcases List.mem_append.mp hz with hz | hz
  · obtain ⟨y, _, rfl⟩ := List.mem_map.mp hz
    exact ⟨Int.fmod_nonneg_of_pos _ (by decide), Int.fmod_lt_of_pos _ (by decide)⟩
  · simp at hz; lia
theorem one_name {h₀ h : Heap} {L a : Addr} {vs : List Value} {n : Nat} (_N : News h₀ L h [(a, listOf vs.toArray n)]) : ∃ (b : Addr) (ws : List Value), b = a ∧ ws = vs := ⟨a, vs, rfl, rfl⟩
theorem script_name {l : List Int} {vs : List Value} (_h : IntsAre vs (l.take 5)) : ∃ z : List Int, z = l := ⟨l, rfl⟩
theorem ints_name {l : List Int} {vs : List Value} (_h : IntsAre vs l) : ∃ ws : List Value, ws = vs := ⟨vs, rfl⟩
theorem nat_of (zs : List Int) (i : Nat) (z : Int) (h : (numZ zs)[i]? = some z) : ∃ n : Nat, z = (n : Int) ∧ n < 100000000 ∧ (numN zs)[i]? = some n := by
  have := numZ_all zs z (List.mem_of_getElem? h)
  refine ⟨z.toNat, by lia, by lia, ?_⟩
  unfold numN
  rw [List.getElem?_map, h]; rfl
theorem numN_len (zs : List Int) : (numN zs).length = 5 := by unfold numN; rw [List.length_map, numZ_len]
theorem strC_words (n : Nat) : (wordS n).cps.toList = wordOf n := by unfold wordS; simp
theorem join_words : ∀ ns : List Nat, (Txt.join (Str.ofString " x ") (ns.map wordS)).cps.toList = lineOf (ns.map wordOf)
  | [] => rfl
  | [n] => strC_words n
  | n :: m :: r => by
    have ih := join_words (m :: r)
    have e : Txt.join (Str.ofString " x ") ((n :: m :: r).map wordS) = wordS n ++ Str.ofString " x " ++ Txt.join (Str.ofString " x ") ((m :: r).map wordS) := by
      show Builtin.Str.glued _ _ = _ ++ Builtin.Str.glued _ _
      rw [StrLaws.glued_eq_join, StrLaws.glued_eq_join]; rfl
    rw [e]
    have app : ∀ a b : Str, (a ++ b).cps.toList = a.cps.toList ++ b.cps.toList := by
      intro a b
      show (a.cps ++ b.cps).toList = _
      exact Array.toList_append
    rw [app, app, ih, strC_words, show (Str.ofString " x ").cps.toList = [32, 120, 32] by decide]
    show _ = wordOf n ++ 32 :: 120 :: 32 :: lineOf ((m :: r).map wordOf)
    simp
theorem letter_known : ∀ d : Fin 16, (65 + d.val) ∈ wordL ∨ (65 + d.val) ∈ punctL := by decide +kernel
theorem x_known : 120 ∈ wordL := by decide +kernel
theorem line_ok : ∀ ws : List (List Nat), (∀ w ∈ ws, ∀ c ∈ w, Letter c) → ∀ c ∈ lineOf ws, c = 32 ∨ c ∈ wordL ∨ c ∈ punctL
  | [], _, c, h => by cases h
  | [w], hw, c, h => .inr (letter_all (fun c => c ∈ wordL ∨ c ∈ punctL) letter_known c (hw w (.head _) c h))
  | w :: v :: r, hw, c, h => by
    rcases List.mem_append.mp h with h | h
    · exact .inr (letter_all (fun c => c ∈ wordL ∨ c ∈ punctL) letter_known c (hw w (.head _) c h))
    · rcases List.mem_cons.mp h with rfl | h
      · exact .inl rfl
      · rcases List.mem_cons.mp h with rfl | h
        · exact .inr (.inl x_known)
        · rcases List.mem_cons.mp h with rfl | h
          · exact .inl rfl
          · exact line_ok (v :: r) (fun x hx => hw x (.tail _ hx)) c h
theorem tsOf_len : ∀ ws : List (List Nat), (tsOf ws).length ≤ (lineOf ws).length
  | [] => Nat.le_refl _
  | [w] => (runsC_sum w).1
  | w :: v :: r => by
    have h1 := (runsC_sum w).1
    have h2 := tsOf_len (v :: r)
    show (runsC w ++ [120] :: tsOf (v :: r)).length ≤ (w ++ 32 :: 120 :: 32 :: lineOf (v :: r)).length
    simp only [List.length_append, List.length_cons]
    lia
theorem line_len : ∀ ws : List (List Nat), (∀ w ∈ ws, w.length ≤ 7) → (lineOf ws).length ≤ 10 * ws.length
  | [], _ => Nat.le_refl _
  | [w], h => by have := h w (.head _); show w.length ≤ 10; lia
  | w :: v :: r, h => by
    have h1 := h w (.head _)
    have h2 := line_len (v :: r) (fun x hx => h x (.tail _ hx))
    show (w ++ 32 :: 120 :: 32 :: lineOf (v :: r)).length ≤ 10 * (v :: r).length.succ
    simp only [List.length_append, List.length_cons, Nat.succ_eq_add_one] at h2 ⊢
    lia
noncomputable def lineS (zs : List Int) : Str := Txt.join (Str.ofString " x ") ((numN zs).map wordS)
noncomputable def wsOf (zs : List Int) : List (List Nat) := (numN zs).map wordOf
theorem ws_letter (zs : List Int) : ∀ w ∈ wsOf zs, ∀ c ∈ w, Letter c := by
  intro w hw
  obtain ⟨n, _, rfl⟩ := List.mem_map.mp hw
  exact word_letter n
theorem lineS_is (zs : List Int) : (lineS zs).cps.toList = lineOf (wsOf zs) := join_words _
theorem lineS_len (zs : List Int) : (lineS zs).length ≤ 50 := by
  have h := line_len (wsOf zs) (by intro w hw; obtain ⟨n, _, rfl⟩ := List.mem_map.mp hw; exact wordOf_len n)
  have e : (lineS zs).length = (lineS zs).cps.toList.length := by rw [Array.length_toList]; rfl
  rw [e, lineS_is]
  have : (wsOf zs).length = 5 := by unfold wsOf; rw [List.length_map, numN_len]
  lia
theorem lineS_ok (zs : List Int) : LineOk (lineS zs) := by
  unfold LineOk; rw [lineS_is]; exact line_ok _ (ws_letter zs)
theorem lineS_toks (zs : List Int) : Toks 0 (lineS zs).cps.toList (tsOf (wsOf zs)) := by rw [lineS_is]; exact toks_line _ (ws_letter zs)
theorem lineS_ts (zs : List Int) : (tsOf (wsOf zs)).length ≤ 50 := by
  have h := tsOf_len (wsOf zs)
  have h2 := lineS_len zs
  have e : (lineS zs).length = (lineS zs).cps.toList.length := by rw [Array.length_toList]; rfl
  rw [e, lineS_is] at h2
  lia
theorem lineS_rows (zs : List Int) : rowsOf (tsOf (wsOf zs)) [] [] = (numN zs).map fun n => runsC (wordOf n) := by
  rw [rowsOf_line (wsOf zs) [] (by intro e; have := congrArg List.length e; unfold wsOf at this; rw [List.length_map, numN_len] at this; cases this) (ws_letter zs)]
  unfold wsOf
  rw [List.nil_append, List.map_map]; rfl
theorem words_sum (zs : List Int) : (((numN zs).map wordS).map (·.length)).sum + ((numN zs).map wordS).length * (Str.ofString " x ").length ≤ 16777216 := by
  have h1 : (Str.ofString " x ").length = 3 := by decide
  have h2 : ∀ l : List Nat, ((l.map wordS).map (·.length)).sum ≤ 7 * l.length := by
    intro l
    induction l with
    | nil => exact Nat.le_refl _
    | cons n r ih =>
      have h7 := wordOf_len n
      have e : (wordS n).length = (wordOf n).length := by unfold wordS; show (wordOf n).toArray.size = _; simp
      simp only [List.map_cons, List.sum_cons, List.length_cons, e]
      lia
  have := h2 (numN zs)
  rw [h1, List.length_map, numN_len] at *
  lia
structure FrD where
  a : Addr
  n : Nat
  t1 : Tok
  t2 : Tok
noncomputable abbrev FrD.obj (f : FrD) : Addr × Obj := (f.a, tupOf [.int (vT (bits f.n)) f.t1, .int (vB (bits f.n)) f.t2])
noncomputable abbrev FrD.ref (f : FrD) : Value := .ref f.a
noncomputable def frLed (fs : List FrD) : List (Addr × Obj) := fs.map FrD.obj
theorem frLed_snoc (fs : List FrD) (f : FrD) : frLed (fs ++ [f]) = frLed fs ++ [f.obj] := by unfold frLed; simp
theorem tokS_runs : ∀ rs : List (List Nat), (∀ x ∈ rs, x ≠ []) → rs.map tokS = sRuns rs
  | [], _ => rfl
  | [] :: r, h => absurd rfl (h [] (.head _))
  | (a :: l) :: r, h => by
    have ih := tokS_runs r (fun x hx => h x (.tail _ hx))
    show tokS (a :: l) :: r.map tokS = strC (a :: l) :: sRuns r
    rw [ih]; rfl
theorem row_at {zs : List Int} {rs : List RowD} (h : rs.map RowD.toks = (numN zs).map fun n => runsC (wordOf n)) (hok : ∀ r ∈ rs, RowOk r) {i : Nat} {n : Nat} (hn : (numN zs)[i]? = some n) :
    ∃ r : RowD, rs[i]? = some r ∧ StrsAre r.vs (runsN n) := by
  have h1 : (rs.map RowD.toks)[i]? = some (runsC (wordOf n)) := by rw [h, List.getElem?_map, hn]; rfl
  rw [List.getElem?_map] at h1
  cases hr : rs[i]? with
  | none => rw [hr] at h1; cases h1
  | some r =>
    rw [hr] at h1
    have e : r.toks = runsC (wordOf n) := Option.some.inj h1
    refine ⟨r, rfl, ?_⟩
    have := (hok r (List.mem_of_getElem? hr)).ok
    rw [e, tokS_runs _ (runsC_ne _)] at this
    exact this
theorem rows_len {zs : List Int} {rs : List RowD} (h : rs.map RowD.toks = (numN zs).map fun n => runsC (wordOf n)) : rs.length = 5 := by
  have := congrArg List.length h
  rwa [List.length_map, List.length_map, numN_len] at this
theorem fr_mem {fs : List FrD} {f : FrD} {base : List (Addr × Obj)} {p : Addr × Obj} {x y z : Addr × Obj} (hp : p ∈ x :: y :: z :: (frLed (fs ++ [f]) ++ base)) : p ∈ f.obj :: x :: y :: z :: (frLed fs ++ base) := by
  rcases List.mem_cons.mp hp with e | hp
  · exact e ▸ .tail _ (.head _)
  rcases List.mem_cons.mp hp with e | hp
  · exact e ▸ .tail _ (.tail _ (.head _))
  rcases List.mem_cons.mp hp with e | hp
  · exact e ▸ .tail _ (.tail _ (.tail _ (.head _)))
  rw [frLed_snoc, List.append_assoc] at hp
  rcases List.mem_append.mp hp with hp | hp
  · exact .tail _ (.tail _ (.tail _ (.tail _ (List.mem_append.mpr (.inl hp)))))
  · rcases List.mem_cons.mp hp with e | hp
    · exact e ▸ .head _
    · exact .tail _ (.tail _ (.tail _ (.tail _ (List.mem_append.mpr (.inr hp)))))
theorem off3_fr {I C D : Addr} {fs : List FrD} {f : FrD} {base : List (Addr × Obj)} (h : LCg.Off3 I C D (frLed fs ++ base)) (h1 : @Ne Nat f.a I) (h2 : @Ne Nat f.a C) (h3 : @Ne Nat f.a D) : LCg.Off3 I C D (frLed (fs ++ [f]) ++ base) := by
  have h := h.mem
  refine LCg.Off3.of fun p hp => ?_
  rw [frLed_snoc, List.append_assoc] at hp
  rcases List.mem_append.mp hp with hp | hp
  · exact h p (List.mem_append.mpr (.inl hp))
  · rcases List.mem_cons.mp hp with rfl | hp
    · exact ⟨h1, h2, h3⟩
    · exact h p (List.mem_append.mpr (.inr hp))
section
variable {prog : Program} {w : World} {A : Around} {E : Value → Shared → Prop} {Q : Flow → Shared → Prop} {s : Shared} {env : Env} {h₀ : Heap} {L : Addr}
theorem walks_widen {I l : Addr} {n : Nat} {Pv : Nat → Value → Prop} {St : Nat → Heap → Prop} (W : Walks prog w A I [I] [I] n Pv St) : Walks prog w A I [I, l] [I] n Pv St :=
  { sub := fun b hb => by rw [List.mem_singleton.mp hb]; exact .head _
    frame := fun i h h' st hk => W.frame i h h' st fun b hb o e => hk b (by rw [List.mem_singleton.mp hb]; exact .head _) o e
    item := W.item, done := W.done, self := W.self }
theorem fo_rangeL {σ : Type} {x : Str} {body : List Stmt} {r l : Addr} {ol : Obj} {b : Int} {n : Nat} {t u v : Tok} {m₀ : Str → Option Value}
    (Led : σ → List (Addr × Obj)) (ps : σ → List (Str × Value)) (P : Nat → σ → Prop) (c₀ : σ) (hL : env.locals = L)
    (hh : A.handled = none) (hr : IsRange s.heap r 0 b 1 t u v) (hsm : Builtin.Range.small 0 b 1 = true) (hn : Builtin.Range.rangeSize 0 b 1 = ((n : Nat) : Int)) (hl : ∀ c : σ, (l, ol) ∈ Led c) (F : Fr h₀ L s.heap m₀) (N : News h₀ L s.heap (Led c₀))
    (hk : ∀ p ∈ ps c₀, m₀ p.1 = some p.2) (hp : P 0 c₀)
    (turn : ∀ (i : Nat) (tv : Tok) (c : σ) (u : Str → Option Value) h tk I oI, i < n → P i c → (∀ p ∈ Led c, p.1 ≠ I) →
      Fr h₀ L h (fun y => if y = x then some (.int (i : Int) tv) else kstB u (ps c) y) → News h₀ L h ((I, oI) :: Led c) →
      wpAny (model prog w) A (execs body env) (FPost h₀ L { s with heap := h, toks := tk } I oI Led ps (P (i + 1)) Q) E { s with heap := h, toks := tk })
    (done : ∀ (c : σ) (u : Str → Option Value) h tk, P n c → Fr h₀ L h (kstB u (ps c)) → News h₀ L h (Led c) → Q .next { s with heap := h, toks := tk }) :
    wpAny (model prog w) A (pyIter (.ref r)) (fun it s₂ => LoopAtV prog w A h₀ env x body Q E it s₂) E s := by
  subst hL
  refine wpAny_pyIter_range hr hsm ?_
  have W := walks_widen (l := l) (LCg.range_walks (prog := prog) (w := w) (I := s.heap.objs.size) hh 0 n)
  refine fo_core W Led ps P c₀ hl (next_is_new F) (Nat.ne_of_lt F.ns.lt) ?_ (F.push _) (fun p hp => ⟨Heap.get?_push_of_some _ (N p hp).1, (N p hp).2⟩)
    (fun p hp e => absurd (Heap.lt_size (N p hp).1) (e ▸ Nat.lt_irrefl _)) hk hp ⟨_, Heap.get?_push_size _ rfl⟩ ?_ ?_ ?_
  · show IsRangeIter _ _ (0 + ((0 : Nat) : Int) * 1) ((n : Int) - ((0 : Nat) : Int)) 1
    rw [show (0 : Int) + ((0 : Nat) : Int) * 1 = 0 by decide, show (n : Int) - ((0 : Nat) : Int) = n by lia, ← hn]
    exact Heap.get?_push_size _ rfl
  · rintro i v c u h tk oI hi ⟨tv, rfl⟩ hP hoff F₁ N₁
    rw [show (0 : Int) + (i : Int) = (i : Int) by lia] at F₁
    exact turn i tv c u h tk _ oI hi hP hoff F₁ N₁
  · intro c u h tk hP F₁ N₁
    exact done c u h tk hP F₁ N₁
  · rintro i h st
    exact ⟨_, st⟩
end
structure OSt where
  ss : List SiD
  n : Nat
noncomputable def shareOf (ns : List Nat) (e l : Nat) : List Bool := lcp (bits (ns.getD e 0)) (bits (ns.getD l 0))
noncomputable def prOf (ns : List Nat) (e l : Nat) : Int × Int := (vB (shareOf ns e l), vT (shareOf ns e l))
noncomputable def prsIn (ns : List Nat) (l k : Nat) : List (Int × Int) := (List.range k).map fun e => prOf ns e l
noncomputable def prsTo (ns : List Nat) (i : Nat) : List (Int × Int) := (List.range i).flatMap fun l => prsIn ns l l
theorem prsTo_succ (ns : List Nat) (i : Nat) : prsTo ns (i + 1) = prsTo ns i ++ prsIn ns i i := by
  unfold prsTo; rw [List.range_succ, List.flatMap_append]; simp
theorem prsIn_succ (ns : List Nat) (l k : Nat) : prsIn ns l (k + 1) = prsIn ns l k ++ [prOf ns k l] := by
  unfold prsIn; rw [List.range_succ, List.map_append]; rfl
section
variable {prog : Program} {w : World} {A : Around} {E : Value → Shared → Prop} {s : Shared} {h₀ : Heap} {L : Addr} {news : List (Addr × Obj)}
theorem item_atN {value slice : PySem.Expr} {a : Addr} {vs : List Value} {n i : Nat} {v : Value} {u : Tok} {Q : Value → Shared → Prop} (N : News h₀ L s.heap news) (hm : (a, listOf vs.toArray n) ∈ news) (hx : vs[i]? = some v) (hi : i < 1000) (h : Q v s)
    (hs : subscripted slice false (.ref a) (.int (i : Int) u) = operate [.ref a, .int (i : Int) u] (getItem (.ref a) (.int (i : Int) u)) := by with_unfolding_all rfl) :
    wpAny (model prog w) A (subscriptTail value slice (.ref a) (.int (i : Int) u)) Q E s :=
  item_listN N hm (by lia) (by lia) (by rw [Int.toNat_natCast]; simpa using hx) h hs
end
theorem fr_at {zs : List Int} {fs : List FrD} (h : fs.map FrD.n = numN zs) {i n : Nat} (hn : (numN zs)[i]? = some n) : ∃ f : FrD, fs[i]? = some f ∧ f.n = n ∧ (fs.map FrD.ref)[i]? = some f.ref := by
  rw [← h, List.getElem?_map] at hn
  cases hf : fs[i]? with
  | none => rw [hf] at hn; cases hn
  | some f => rw [hf] at hn; exact ⟨f, rfl, Option.some.inj hn, by rw [List.getElem?_map, hf]; rfl⟩
theorem path_at {zs : List Int} {ys : List Value} (h : StrsAre ys ((numN zs).map fun n => joinTo (bits n))) {i n : Nat} (hn : (numN zs)[i]? = some n) : ∃ t, ys[i]? = some (.str (joinTo (bits n)) t) := by
  have hl : ys.length = 5 := by rw [h.length, List.length_map, numN_len]
  have hi : i < 5 := by rw [← numN_len zs]; exact (List.getElem?_eq_some_iff.mp hn).1
  obtain ⟨v, hv⟩ : ∃ v, ys[i]? = some v := ⟨_, List.getElem?_eq_getElem (by lia)⟩
  obtain ⟨y, t, rfl, hy⟩ := h.item i v hv
  rw [List.getElem?_map, hn] at hy
  exact ⟨t, by rw [hv, ← Option.some.inj hy]⟩
section
variable {prog : Program} {w : World} {A : Around} {E : Value → Shared → Prop} {s : Shared} {h₀ : Heap} {L : Addr} {news : List (Addr × Obj)}
theorem ne_ints_same {a b : Addr} {xs ys : List Value} {n m : Nat} {ns : List Int} {Q : Value → Shared → Prop} (N : News h₀ L s.heap news) (ha : (a, listOf xs.toArray n) ∈ news) (hb : (b, listOf ys.toArray m) ∈ news) (hi : IntsAre xs ns) (hj : IntsAre ys ns) (hu : A.units + 64 < cLine) (h : Q (.bool false) s) :
    wpAny (model prog w) A (compareOp .NotEq (.ref a) (.ref b)) Q E s :=
  ke_ne_ints ⟨_, (N _ ha).1, rfl, n, rfl⟩ ⟨_, (N _ hb).1, rfl, m, rfl⟩ hi hj hu (by simpa using h)
end
theorem rg_small : ∀ (i : Nat), i < 6 → Builtin.Range.small 0 (i : Int) 1 = true ∧ Builtin.Range.rangeSize 0 (i : Int) 1 = (i : Int)
  | 0, _ => by decide
  | 1, _ => by decide
  | 2, _ => by decide
  | 3, _ => by decide
  | 4, _ => by decide
  | 5, _ => by decide
  | n + 6, h => by lia
theorem lcp_len (a b : List Bool) (h : a.length ≤ 7) : (lcp a b).length ≤ 7 := by
  obtain ⟨r, s, e, _, _⟩ := lcp_split a b
  have := congrArg List.length e
  rw [List.length_append] at this
  lia
theorem share_of {ns : List Nat} {e l n m : Nat} (h1 : ns[e]? = some m) (h2 : ns[l]? = some n) : shareOf ns e l = lcp (bits m) (bits n) := by
  unfold shareOf
  rw [List.getD_eq_getElem?_getD, List.getD_eq_getElem?_getD, h1, h2]; rfl
end
section
theorem prsTo_len (ns : List Nat) : ∀ i, (prsTo ns i).length ≤ i * i
  | 0 => Nat.le_refl 0
  | i + 1 => by
    have h := prsTo_len ns i
    rw [prsTo_succ, List.length_append]
    have e : (prsIn ns i i).length = i := by unfold prsIn; rw [List.length_map, List.length_range]
    have : (i + 1) * (i + 1) = i * i + i + i + 1 := by grind
    lia
theorem prs_len (ns : List Nat) (i j : Nat) (hi : i ≤ 5) (hj : j ≤ 5) : (prsTo ns i ++ prsIn ns i j).length ≤ 100 := by
  have h := prsTo_len ns i
  have : i * i ≤ 5 * 5 := Nat.mul_le_mul hi hi
  have e : (prsIn ns i j).length = j := by unfold prsIn; rw [List.length_map, List.length_range]
  rw [List.length_append]; lia
theorem mem_prs {ns : List Nat} {i : Nat} {q : Int × Int} : q ∈ prsTo ns i ↔ ∃ l e, l < i ∧ e < l ∧ q = prOf ns e l := by
  unfold prsTo prsIn
  simp only [List.mem_flatMap, List.mem_range, List.mem_map]
  constructor
  · rintro ⟨l, hl, e, he, rfl⟩; exact ⟨l, e, hl, he, rfl⟩
  · rintro ⟨l, e, hl, he, rfl⟩; exact ⟨l, hl, e, he, rfl⟩
theorem min_prs {ns : List Nat} {q : Int × Int} (h5 : ns.length = 5) (hq : q ∈ prsTo ns 5) (hmin : ∀ q' ∈ prsTo ns 5, ltP q' q = false) : q = (vB (cpAll (ns.map bits)), vT (cpAll (ns.map bits))) := by
  obtain ⟨l, e, hl, he, rfl⟩ := mem_prs.mp hq
  have at' : ∀ i, i < 5 → ∃ n, ns[i]? = some n ∧ (ns.map bits)[i]? = some (bits n) := fun i hi => ⟨_, List.getElem?_eq_getElem (by lia), by rw [List.getElem?_map, List.getElem?_eq_getElem (by lia)]; rfl⟩
  obtain ⟨nl, hnl, hbl⟩ := at' l hl
  obtain ⟨ne, hne, hbe⟩ := at' e (by lia)
  have hle := cpAll_le (l := ns.map bits) (List.mem_of_getElem? hbe) (List.mem_of_getElem? hbl)
  obtain ⟨i, j, a, b, hij, ha, hb, hc⟩ := cpAll_at (l := ns.map bits) (by rw [List.length_map]; lia)
  have hj5 : j < 5 := by have := (List.getElem?_eq_some_iff.mp hb).1; rw [List.length_map] at this; lia
  obtain ⟨ni, hni, hbi⟩ := at' i (by lia)
  obtain ⟨nj, hnj, hbj⟩ := at' j hj5
  rw [hbi] at ha; rw [hbj] at hb
  cases ha; cases hb
  have hm := hmin (prOf ns i j) (mem_prs.mpr ⟨j, i, hj5, hij, rfl⟩)
  unfold prOf at hm ⊢
  rw [share_of hne hnl] at hm ⊢
  rw [share_of hni hnj, ← hc] at hm
  have h1 : ((val (cpAll (ns.map bits))).1 : Int) ≤ (val (lcp (bits ne) (bits nl))).1 := by exact_mod_cast hle.1
  have h2 : ((val (cpAll (ns.map bits))).2 : Int) ≤ (val (lcp (bits ne) (bits nl))).2 := by exact_mod_cast hle.2
  simp only [ltP, decide_eq_false_iff_not, vT, vB] at hm
  simp only [vT, vB, Prod.mk.injEq]
  lia
theorem si_mem {ss' : List SiD} {x : SiD} {ls : Addr} {n' : Nat} {rest tl' all : List (Addr × Obj)} (htl : siLed ss' ++ rest = tl') (h1 : (ls, listOf (ss'.map SiD.ref ++ [Value.ref x.a]).toArray (n' + 1)) ∈ all) (h2 : x.obj ∈ all) (h3 : ∀ p ∈ tl', p ∈ all) :
    ∀ p ∈ (ls, listOf ((ss' ++ [x]).map SiD.ref).toArray (n' + 1)) :: (siLed (ss' ++ [x]) ++ rest), p ∈ all := by
  intro p hp
  rcases List.mem_cons.mp hp with e | hp
  · rw [e, List.map_append]; exact h1
  · rcases List.mem_append.mp hp with hp | hp
    · unfold siLed at hp
      rw [List.map_append] at hp
      rcases List.mem_append.mp hp with hp | hp
      · exact h3 p (htl ▸ List.mem_append.mpr (.inl hp))
      · rw [List.mem_singleton.mp hp]; exact h2
    · exact h3 p (htl ▸ List.mem_append.mpr (.inr hp))
theorem si_off {ss' : List SiD} {x : SiD} {ls I : Addr} {o : Obj} {rest tl' : List (Addr × Obj)} (htl : siLed ss' ++ rest = tl') (h1 : ls ≠ I) (h2 : x.a ≠ I) (h3 : ∀ p ∈ tl', p.1 ≠ I) :
    ∀ p ∈ (ls, o) :: (siLed (ss' ++ [x]) ++ rest), p.1 ≠ I := by
  intro p hp
  rcases List.mem_cons.mp hp with e | hp
  · rw [e]; exact h1
  · rcases List.mem_append.mp hp with hp | hp
    · unfold siLed at hp
      rw [List.map_append] at hp
      rcases List.mem_append.mp hp with hp | hp
      · exact h3 p (htl ▸ List.mem_append.mpr (.inl hp))
      · rw [List.mem_singleton.mp hp]; exact h2
    · exact h3 p (htl ▸ List.mem_append.mpr (.inr hp))
theorem cp_len (ns : List Nat) (h : ns ≠ []) : (cpAll (ns.map bits)).length ≤ 7 := by
  refine lcp_len _ _ ?_
  obtain ⟨n, _, hn⟩ := List.mem_map.mp (minL_spec (l := ns.map bits) (by simpa using h)).1
  rw [← hn]; exact bits_len n
theorem si_at {ss : List SiD} {ns : List Nat} (h5 : ns.length = 5) (h : ss.map SiD.val = prsTo ns 5) {q : SiD} (hq : q ∈ ss) (hmin : ∀ q' ∈ ss, ltP q'.val q.val = false) : q.b = vB (cpAll (ns.map bits)) ∧ q.t = vT (cpAll (ns.map bits)) := by
  have e := min_prs h5 (h ▸ List.mem_map.mpr ⟨q, hq, rfl⟩ : q.val ∈ prsTo ns 5) (fun q' hq' => by
    rw [← h] at hq'
    obtain ⟨q2, h2, rfl⟩ := List.mem_map.mp hq'
    exact hmin q2 h2)
  exact ⟨congrArg Prod.fst e, congrArg Prod.snd e⟩
theorem si_ne {ss : List SiD} {ns : List Nat} (h : ss.map SiD.val = prsTo ns 5) : ss ≠ [] := by
  intro e
  subst e
  have : prOf ns 0 1 ∈ prsTo ns 5 := mem_prs.mpr ⟨1, 0, by decide, by decide, rfl⟩
  rw [← h] at this
  cases this
theorem paths_all {ys : List Value} {zs : List Int} (h : StrsAre ys ((numN zs).map fun n => joinTo (bits n))) : StrsAre ys (((numN zs).map bits).map joinTo) := by
  rw [List.map_map]; exact h
theorem allLt_mem {d : Addr} : ∀ {l : List (Addr × Obj)}, AllLt d l → ∀ p ∈ l, p.1 < d
  | [], _, _, h => nomatch h
  | q :: r, a, p, h => by
    rcases List.mem_cons.mp h with e | h
    · rw [e]; exact a.1
    · exact allLt_mem a.2 p h
theorem ls_off {D lF ls : Addr} {oD oF : Obj} {l b3 : List (Addr × Obj)} (hb3 : (D, oD) :: (lF, oF) :: l = b3) (h : D < ls ∧ lF < ls ∧ AllLt ls l) : ∀ p ∈ b3, p.1 ≠ ls := by
  intro p hp
  rw [← hb3] at hp
  rcases List.mem_cons.mp hp with e | hp
  · rw [e]; exact Nat.ne_of_lt h.1
  · rcases List.mem_cons.mp hp with e | hp
    · rw [e]; exact Nat.ne_of_lt h.2.1
    · exact Nat.ne_of_lt (allLt_mem h.2.2 p hp)
end
section
theorem SecCp.onCp : True := True.intro
open SecCp
theorem kw_Cp_1 : True := by
  k_with "@Cp" => guard_expr onCp = onCp
  k_with "call type:map" => (k_extra "@Cp"; (k_here; (show wpAny _ _ (call (Value.type "map") [_, Value.ref _]) _ _ _); k_dflt (refine' map_made ?z9ka ?z9kb ?z9kc ?_; (case z9ka => k_asm); (case z9kb => k_asm); (case z9kc => k_mem); k_whole); intro _ _ _ _ _ _ _ _ _))
  k_with "call type:tuple" => (k_extra "@Cp"; ((show wpAny _ _ (call (Value.type "tuple") [Value.ref _]) _ _ _); refine Hold.of ?_))
  k_with "exec Assign cons ListComp" => (k_extra "@Cp"; (k_here; k_dflt (refine assignK (F₀ := by k_asm) (by rfl) (by with_unfolding_all rfl) (by with_unfolding_all rfl) (by decide) (by rfl) (by decide) (by rfl) (by rfl) (by rfl) ?_)))
  k_with "eval ListComp" => (k_extra "@Cp"; (k_here; k_dflt (refine evalK (F₀ := by k_asm) (by with_unfolding_all rfl) (by decide) (by rfl) (by decide) (by rfl) ?_)))
  k_with "exec Try" => (k_extra "@Cp"; (with_reducible refine wpAny_Try_except ?_))
  k_with "SrcK" => (k_extra "@Cp"; refine Hold.of ?_)
  k_with "SrcS" => (k_extra "@Cp"; refine Hold.of ?_)
  k_with "call type:enumerate" => (k_extra "@Cp"; refine Hold.of ?_)
  k_with "EPost" => (k_extra "@Cp"; refine Hold.of ?_)
  k_with "subscriptTail Name Name ref int" => (k_extra "@Cp"; (k_here; (with_reducible show wpAny _ _ (subscriptTail _ _ (Value.ref _) (Value.int (Nat.cast _) _)) _ _ _); k_dflt (refine' item_atN ?z9kn ?z9km ?z9kx ?z9ki ?_; (case z9kn => k_asm); (case z9km => k_mem); (case z9kx => with_reducible assumption); (case z9ki => lia); k_whole)))
  k_with "subscriptTail Name Slice ref ref" => (k_extra "@Cp"; (k_here; (with_reducible show wpAny _ _ (subscriptTail _ (PySem.Expr.Slice none _ none _) (Value.ref _) (Value.ref _)) _ _ _); k_dflt (refine' kmk_slice_lit ?z9F ?z9N ?z9l ?z9p ?z9q ?z9e ?_ ?z9s ?z9t ?z9z; (case z9F => k_asm); (case z9N => k_asm); (case z9l => exact News.isList (by k_asm) (by k_mem)); (case z9p => exact IsPart.none); (case z9q => exact IsPart.int _ _); (case z9e => exact pick_take _ _); (case z9s => with_unfolding_all rfl); (case z9t => (intro _; with_unfolding_all rfl)); (case z9z => (rw [PySem.sizeLine_eq, List.size_toArray]; lia))); intro D9 h9 F9 N9 lt9))
  k_with "call builtin:str.join" => (k_extra "@Cp"; (k_here; (show wpAny _ _ (call (Value.builtin "str.join") [Value.str _ _, Value.ref _]) _ _ _); k_dflt (refine' join_N ?z9ka ?z9kb ?z9kc ?z9kd ?_; (case z9ka => k_asm); (case z9kb => k_mem); (case z9kc => with_reducible assumption); (case z9kd => with_reducible assumption); k_whole); intro t9 k9))
  k_with "SEnd" => (k_extra "@Cp"; refine Hold.of ?_)
  k_with "TEnd" => (k_extra "@Cp"; refine Hold.of ?_)
  k_with "eval SetComp" => (k_extra "@Cp"; (k_here; k_dflt (refine evalS (F₀ := by k_asm) (by with_unfolding_all rfl) (by decide) (by rfl) (by decide) (by rfl) ?_)))
  k_with "assign" => (k_extra "@Cp"; ((with_reducible show wpAny _ _ (assign (PySem.Expr.Tuple [_] _ _) _ (Value.ref _)) _ _ _); refine Hold.of ?_))
  k_with "call builtin:min" => (k_extra "@Cp"; ((show wpAny _ _ (call (Value.builtin "min") [Value.ref _]) _ _ _); refine Hold.of ?_))
  k_with "call builtin:max" => (k_extra "@Cp"; ((show wpAny _ _ (call (Value.builtin "max") [Value.ref _]) _ _ _); refine Hold.of ?_))
  k_with "truthy ref" => (k_extra "@Cp"; (k_here; (with_reducible show wpAny _ _ (truthy (Value.ref _)) _ _ _); k_dflt (refine' truthT0 ?z9ka ?z9kb ?z9kc ?z9kd ?_; (case z9ka => k_asm); (case z9kb => k_mem); (case z9kc => assumption); (case z9kd => assumption); k_whole)))
  k_with "subscriptTail Name Constant ref int" => (k_extra "@Cp"; (k_here; (with_reducible show wpAny _ _ (subscriptTail _ _ (Value.ref _) (Value.int _ _)) _ _ _); k_dflt (refine' item_tup0 ?z9kn ?z9km ?z9ka ?_; (case z9kn => k_asm); (case z9km => k_mem); (case z9ka => assumption); k_whole)))
  k_with "eval Name" => (k_extra "@Cp"; (k_here; (with_reducible show wpAny _ _ (eval (PySem.Expr.Name (PySem.Str.ofString "sep") _) (compEnvC _ _ _ _)) _ _ _); k_dflt (refine' name_cell ?z9kn ?z9kc ?z9kd ?z9km ?z9k1 ?z9k2 ?_; (case z9kn => k_asm); (case z9kc => with_unfolding_all rfl); (case z9kd => (show Obj.data _ = Data.cell (some (Value.str (PySem.Str.ofString "/") _)); with_reducible assumption)); (case z9km => k_mem); (case z9k1 => with_unfolding_all rfl); (case z9k2 => with_unfolding_all rfl); k_whole)))
  k_with "eval Name" => (k_extra "@Cp"; (k_here; (with_reducible show wpAny _ _ (eval (PySem.Expr.Name (PySem.Str.ofString "curdir") _) (compEnvC _ _ _ _)) _ _ _); k_dflt (refine' name_cell ?z9kn ?z9kc ?z9kd ?z9km ?z9k1 ?z9k2 ?_; (case z9kn => k_asm); (case z9kc => with_unfolding_all rfl); (case z9kd => (show Obj.data _ = Data.cell (some (Value.str (PySem.Str.ofString ".") _)); with_reducible assumption)); (case z9km => k_mem); (case z9k1 => with_unfolding_all rfl); (case z9k2 => with_unfolding_all rfl); k_whole)))
  k_with "call builtin:str.split" => (k_extra "@Cp"; (k_here; (with_reducible show wpAny _ _ (call (Value.builtin "str.split") [Value.str _ _, Value.str _ _]) _ _ _); k_dflt (refine' KSpl.split1 ?z9ka ?z9kb ?z9kc ?_ ?z9kz; (case z9ka => k_asm); (case z9kb => k_asm); (case z9kc => decide); (case z9kz => (rw [PySem.sizeLine_eq]; lia)); k_whole); intro D9 l9 h9 k9 e9 a9 F9 N9 lt9))
  trivial
set_option maxHeartbeats 8000000 in
theorem commonp (w : World) (l : Addr) (vs : List Value) (n : Nat) (bss : List (List Bool)) (news : List (Addr × Obj)) (hl : (l, listOf vs.toArray n) ∈ news) (hx : StrsAre vs (bss.map joinTo)) (hne : bss ≠ []) (h5 : bss.length ≤ 5) (h7 : ∀ b ∈ bss, b.length ≤ 7) :
    Claim w 145 20 100 news [.ref l] (fun v news' => (∃ t', v = .str (joinTo (cpAll bss)) t') ∧ news' = news) := by
  intro mean mg mb dp un gd cn cs a ccd cl outer A₀ base h₀ L m s Q E Bl F X N Tp hk hdp hun hret
  have hvl : vs.length = bss.length := by rw [hx.length, List.length_map]
  have hv0 : 0 < vs.length := by rw [hvl]; exact List.length_pos_iff.mpr hne
  have hv1 : vs.length ≤ 1000 := by lia
  obtain ⟨b0, t0, hi0⟩ : ∃ b0 t0, vs[0]? = some (.str (joinTo b0) t0) := by
    obtain ⟨y, t, hv, hy⟩ := hx.item 0 _ (List.getElem?_eq_getElem hv0)
    rw [List.getElem?_map] at hy
    cases hb : bss[0]? with
    | none => rw [hb] at hy; cases hy
    | some b => rw [hb] at hy; cases hy; exact ⟨b, t, by rw [List.getElem?_eq_getElem hv0, hv]⟩
  refine wpAny_call ?_
  k_dflt (refine' code_defC (binds := [(Str.ofString "paths", .ref l)]) ?k1 ?k2 ?k3 ?k4 ?k5 ?kA ?kF ?kK ?k6 ?k7 ?k8 ?k9 ?kB ?kD ?_ ?c2 ?c3 ?c4; (case kA => exact rfl); (case kF => exact rfl); (case kK => assumption); (case k1 => k_asm); (case k2 => k_asm); (case k3 => k_asm); (case k4 => k_asm); (case k5 => k_asm); (case k6 => k_is); (case k7 => k_is); (case k8 => ktr_room); (case k9 => exact BindsTo.of_eq rfl); (case kB => exact rfl); (case kD => decide +kernel); (case c2 => exact rfl); (case c3 => exact rfl); (case c4 => exact rfl); k_whole; intro g' L' h' tk' cells' FG' F' N' Y' B' X' T' l1; k_cells Y'; (try simp only [List.cons_append, List.nil_append] at N'))
  try dsimp only
  k_lift B'
  replace F' : Fr g' L' h' (fun y => if y = Str.ofString "paths" then some (.ref l) else none) := F'
  have c1 : ∀ p ∈ news, p.1 ≠ L' + 1 := fun p hp => Nat.ne_of_lt (Nat.lt_succ_of_lt (l1 p hp))
  have c2 : ∀ p ∈ news, p.1 ≠ L' + 1 + 1 := fun p hp => Nat.ne_of_lt (Nat.lt_succ_of_lt (Nat.lt_succ_of_lt (l1 p hp)))
  try k_fold
  k_steps
  refine Hold.to ?_
  rename_i J9 T9 I9 h9 F9 N9 l2 l3 l4
  refine tuple_map (vs := vs) (n := n) rfl (by rw [PySem.sizeLine_eq]; lia) (.tail _ (.tail _ hl)) ?_ (Nat.ne_of_gt (Nat.lt_trans l3 l4)) (Nat.ne_of_gt l3) (fun p hp => Nat.ne_of_lt (l2 p hp)) F9 N9 ?_
  · intro v h tk nw Q E hv F2 N2 hQ
    obtain ⟨i, hi⟩ := List.mem_iff_getElem?.mp hv
    obtain ⟨y, ty, rfl, -⟩ := hx.item i v hi
    refine Claim.use (fspath w y ty nw) (by k_asm) F2 (by k_asm) N2 (by k_asm) (by exact rfl) (by ktr_room) (by ktr_units) ?_
    rintro v' h' tk' nw' ⟨rfl, rfl⟩ F' N'
    exact hQ h' tk' F' N'
  · intro D h9 tk9 F8 N8 l8
    clear F9 N9
    k_lt l8
    (try dsimp only)
    (try k_fold)
    k_steps
    refine Hold.to ?_
    rename Fr _ _ _ _ => F7
    rename News _ _ _ _ => N7
    have hvs : SeqObj (tupOf vs) vs := ⟨.inr rfl, 0, rfl⟩
    rename Obj.data _ = Data.cell (some (Value.str (Str.ofString "/") _)) => dS
    rename Obj.data _ = Data.cell (some (Value.str (Str.ofString ".") _)) => dC
    obtain ⟨oS, rfl⟩ := data_name dS
    obtain ⟨oC, rfl⟩ := data_name dC
    generalize hbase : (D, tupOf vs) :: _ = base at N7
    have hDm : (D, tupOf vs) ∈ base := hbase ▸ .head _
    have hCm : (L' + 1 + 1, oC) ∈ base := hbase ▸ .tail _ (.head _)
    have hSm : (L' + 1, oS) ∈ base := hbase ▸ .tail _ (.tail _ (.head _))
    refine SrcK.intro (tupOf vs) vs (fun i ys nw => ∃ rs : List SpD, nw = spLed rs ++ base ∧ ys = rs.map SpD.ref ∧ rs.map SpD.b = bss.take i ∧ SpOk rs) rfl F7 N7 hvs hDm (by rw [PySem.sizeLine_eq]; lia) ?_ ⟨[], rfl, rfl, rfl, fun _ h => nomatch h⟩ ?_ ?_
    · rintro i ys nw ⟨rs, rfl, rfl, hb, -⟩
      refine ⟨?_, List.mem_append.mpr (.inr hDm)⟩
      rw [List.length_map, ← List.length_map (f := SpD.b), hb, List.length_take]
      exact Nat.min_le_left _ _
    · rintro g i v ys nw I oI C oC Dc m2 h tk E' ⟨rs, rfl, rfl, hb, hok⟩ hi hv hC hx2 F1 N1 off ne
      obtain ⟨y, ty, rfl, hy⟩ := hx.item i v hv
      obtain ⟨b, hbi, rfl⟩ : ∃ b, bss[i]? = some b ∧ joinTo b = y := by
        rw [List.getElem?_map] at hy
        cases hb : bss[i]? with
        | none => rw [hb] at hy; cases hy
        | some b => rw [hb] at hy; exact ⟨b, rfl, Option.some.inj hy⟩
      have hb7 := h7 b (List.mem_of_getElem? hbi)
      have hyl := joinTo_lenP b
      refine wpAny_tests_nil ?_
      rw [if_pos rfl]
      generalize hnw : spLed rs ++ base = nw at N1 off
      have mS : (L' + 1, oS) ∈ nw := hnw ▸ List.mem_append.mpr (.inr hSm)
      (try k_fold)
      k_steps
      refine Hold.to ?_
      rename Fr _ _ _ _ => F2
      rename News _ _ _ _ => N2
      rename ∀ p : Addr × Obj, p ∈ _ → p.1 < _ => hlt
      rename StrsAre (strValues _) _ => ha
      rename List.map _ _ = Txt.split _ _ => he
      rw [he] at ha
      have q1 := hlt _ (.head _)
      have q2 := hlt _ (.tail _ (.head _))
      have q3 := hlt _ (.tail _ (.tail _ (.head _)))
      subst hnw
      refine tend F2 N2 (spLed (rs ++ [⟨_, _, 0, b⟩]) ++ base) ?_ (off3_sp off (Nat.ne_of_gt q1) (Nat.ne_of_gt q2) (Nat.ne_of_gt q3)) ⟨rs ++ [⟨_, _, 0, b⟩], rfl, by rw [List.map_append]; rfl, ?_, hok.snoc ha⟩
      · intro p hp
        rcases List.mem_cons.mp hp with e | hp
        · rw [e]; exact .tail _ (.head _)
        · rcases List.mem_cons.mp hp with e | hp
          · rw [e]; exact .tail _ (.tail _ (.head _))
          · rcases List.mem_cons.mp hp with e | hp
            · rw [e]; exact .tail _ (.tail _ (.tail _ (.head _)))
            · exact sp_mem (.head _) (fun p hp => .tail _ (.tail _ (.tail _ (.tail _ hp)))) p hp
      · rw [List.take_add_one, hbi, List.map_append, hb]; rfl
    · rintro g ys nw ⟨rs, rfl, rfl, hb, hok⟩
      rw [hvl, List.take_length] at hb
      intro D1 h tk F1 N1 off1
      (try k_fold)
      k_steps
      refine Hold.to ?_
      rename Fr _ _ _ _ => F6
      rename News _ _ _ _ => N6
      generalize hb2 : (D1, LCg.lst (rs.map SpD.ref)) :: (spLed rs ++ base) = b2 at N6
      have iD : ∀ p ∈ base, p ∈ b2 := fun p hp => hb2 ▸ .tail _ (List.mem_append.mpr (.inr hp))
      have mS := iD _ hSm
      have mC := iD _ hCm
      have mD := iD _ hDm
      refine ⟨D, vs, b2, rfl, rfl, F6, N6, mD, hv0, ?_, ?_⟩
      · rintro i v I oI C oCc Ds oDs m2 h tk E' hv hC hx2 F1 N1
        obtain ⟨y, ty, rfl, hy⟩ := hx.item i v hv
        obtain ⟨b, hbi, rfl⟩ : ∃ b, bss[i]? = some b ∧ joinTo b = y := by
          rw [List.getElem?_map] at hy
          cases hb : bss[i]? with
          | none => rw [hb] at hy; cases hy
          | some b => rw [hb] at hy; exact ⟨b, rfl, Option.some.inj hy⟩
        have hst := starts_is b
        (try k_fold)
        k_steps
        refine Hold.to ?_
        exact send F1 N1 hst fun p hp => hp
      · rintro Ds led h tk hled F1 N1
        (try k_fold)
        k_steps
        refine Hold.to ?_
        rename Fr _ _ _ _ => F5
        rename News _ _ _ _ => N5
        refine assign_one (led := led) rfl (N5 _ (.head _)).1 hled ?_
        intro h5 kp
        have F4 := F5.grownK kp
        have N4 : News _ _ h5 b2 := fun p hp => (N5.grown kp) p (.tail _ hp)
        clear N5 F5
        (try dsimp only)
        (try k_fold)
        k_steps
        refine Hold.to ?_
        rename Fr _ _ _ _ => F3
        rename News _ _ _ _ => N3
        have hrl : (rs.map SpD.ref).length = bss.length := by rw [List.length_map, ← List.length_map (f := SpD.b), hb]
        have hD1 : (D1, LCg.lst (rs.map SpD.ref)) ∈ b2 := hb2 ▸ .head _
        have hrm : ∀ r ∈ rs, r.obj ∈ b2 := fun r hr => hb2 ▸ .tail _ (List.mem_append.mpr (.inl (List.mem_map.mpr ⟨r, hr, rfl⟩)))
        refine SrcK.intro (LCg.lst (rs.map SpD.ref)) (rs.map SpD.ref) (fun i ys nw => ∃ qs : List SpD, nw = spLed qs ++ b2 ∧ ys = qs.map SpD.ref ∧ qs.map SpD.b = bss.take i ∧ NmOk qs) rfl F3 N3 ⟨.inl rfl, _, rfl⟩ hD1 (by rw [hrl, PySem.sizeLine_eq]; lia) ?_ ⟨[], rfl, rfl, rfl, fun _ h => nomatch h⟩ ?_ ?_
        · rintro i ys nw ⟨qs, rfl, rfl, hqb, -⟩
          refine ⟨?_, List.mem_append.mpr (.inr hD1)⟩
          rw [List.length_map, ← List.length_map (f := SpD.b), hqb, List.length_take]
          exact Nat.min_le_left _ _
        · rintro g i v ys nw I oI C oCc Dq m2 h tk E' ⟨qs, rfl, rfl, hqb, hqok⟩ hi hv hC hx2 F1 N1 off ne
          obtain ⟨r, hri, rfl⟩ : ∃ r, rs[i]? = some r ∧ r.ref = v := by
            rw [List.getElem?_map] at hv
            cases hr : rs[i]? with
            | none => rw [hr] at hv; cases hv
            | some r => rw [hr] at hv; exact ⟨r, rfl, Option.some.inj hv⟩
          have hbi : bss[i]? = some r.b := by rw [← hb, List.getElem?_map, hri]; rfl
          have hs := hok r (List.mem_of_getElem? hri)
          have hsp := sp_is r.b (h7 _ (List.mem_of_getElem? hbi))
          refine wpAny_tests_nil ?_
          rw [if_pos rfl]
          generalize hnw : spLed qs ++ b2 = nw at N1 off
          have mC' : (L' + 1 + 1, oC) ∈ nw := hnw ▸ List.mem_append.mpr (.inr mC)
          have mr : r.obj ∈ nw := hnw ▸ List.mem_append.mpr (.inr (hrm r (List.mem_of_getElem? hri)))
          (try k_fold)
          k_steps
          refine Hold.to ?_
          rename Fr _ _ _ _ => F2
          rename News _ _ _ _ => N2
          have hrs9 : r.vs.length ≤ 9 := by rw [hs.length]; exact hsp.2.2
          refine SrcK.intro (listOf r.vs.toArray r.n) r.vs (fun i2 ys2 nw2 => nw2 = (I, oI) :: (C, oCc) :: (Dq, LCg.lst (qs.map SpD.ref)) :: nw ∧ StrsAre ys2 (keepN ((Txt.split (joinTo r.b) slash).take i2))) rfl F2 N2 ⟨.inl rfl, _, rfl⟩ (.tail _ (.tail _ (.tail _ mr))) (by rw [PySem.sizeLine_eq]; lia) ?_ ⟨rfl, .nil⟩ ?_ ?_
          · rintro i2 ys2 nw2 ⟨rfl, hy2⟩
            exact ⟨by rw [hy2.length]; exact keep_len _ _, .tail _ (.tail _ (.tail _ mr))⟩
          · rintro g2 i2 v2 ys2 nw2 I2 oI2 C2 oC2 D2 m3 h2 tk2 E2 ⟨rfl, hy2⟩ hi2 hv2 hC2 hx3 F4 N4 off2 ne2
            obtain ⟨y2, ty2, rfl, hyy⟩ := hs.item i2 v2 hv2
            refine wpAny_tests_one ?_
            rcases hsp.2.1 y2 (List.mem_of_getElem? hyy) with rfl | rfl | rfl
            · (try k_fold)
              k_steps
              refine Hold.to ?_
              refine tend F4 N4 _ (fun p hp => hp) off2 ⟨rfl, ?_⟩
              rw [keep_add hyy, show keepN [Str.empty] = [] from by decide, List.append_nil]; exact hy2
            · (try k_fold)
              k_steps
              refine Hold.to ?_
              refine tend F4 N4 _ (fun p hp => hp) off2 ⟨rfl, ?_⟩
              rw [keep_add hyy, show keepN [Str.ofString "a"] = [Str.ofString "a"] from by decide]
              exact StrsAre.append' hy2 (.cons _ _ .nil)
            · (try k_fold)
              k_steps
              refine Hold.to ?_
              refine tend F4 N4 _ (fun p hp => hp) off2 ⟨rfl, ?_⟩
              rw [keep_add hyy, show keepN [Str.ofString "ab"] = [Str.ofString "ab"] from by decide]
              exact StrsAre.append' hy2 (.cons _ _ .nil)
          · rintro g2 ys2 nw2 ⟨rfl, hy2⟩
            rw [hs.length, List.take_length, hsp.1] at hy2
            intro Dn hn tkn Fn Nn offn
            have z1 := offn (I, oI) (.head _)
            have z2 := offn (C, oCc) (.tail _ (.head _))
            have z3 := offn (Dq, LCg.lst (qs.map SpD.ref)) (.tail _ (.tail _ (.head _)))
            subst hnw
            refine tend Fn Nn (spLed (qs ++ [⟨Dn, ys2, ys2.length, r.b⟩]) ++ b2) ?_ (off3_sp off (Ne.symm z1) (Ne.symm z2) (Ne.symm z3)) ⟨qs ++ [⟨Dn, ys2, ys2.length, r.b⟩], rfl, by rw [List.map_append]; rfl, ?_, hqok.snoc hy2⟩
            · intro p hp
              rcases List.mem_cons.mp hp with e | hp
              · rw [e]; exact .tail _ (.head _)
              · rcases List.mem_cons.mp hp with e | hp
                · rw [e]; exact .tail _ (.tail _ (.head _))
                · rcases List.mem_cons.mp hp with e | hp
                  · rw [e]; exact .tail _ (.tail _ (.tail _ (.head _)))
                  · exact sp_mem (.head _) (fun p hp => .tail _ (.tail _ (.tail _ (.tail _ hp)))) p hp
            · rw [List.take_add_one, hbi, List.map_append, hqb]; rfl
        · rintro g ys nw ⟨qs, rfl, rfl, hqb, hqok⟩
          rw [hrl, List.take_length] at hqb
          intro D3 h tk F1 N1 off3
          (try k_fold)
          k_steps
          refine Hold.to ?_
          rename Fr _ _ _ _ => F9
          rename News _ _ _ _ => N9
          have hqne : qs ≠ [] := by
            intro e
            subst e
            exact hne hqb.symm
          have hqm : ∀ q ∈ qs, q.obj ∈ spLed qs ++ b2 := fun q hq => List.mem_append.mpr (.inl (List.mem_map.mpr ⟨q, hq, rfl⟩))
          refine min_words (qs := qs) rfl F9 N9 (.head _) (fun q hq => .tail _ (hqm q hq)) hqok hqne (by ke_room) ?_
          rintro q1 h' tk' hq1 hb1 F8 N8
          clear F9 N9
          (try dsimp only)
          (try k_fold)
          k_steps
          refine Hold.to ?_
          rename Fr _ _ _ _ => F9
          rename News _ _ _ _ => N9
          refine max_words (qs := qs) rfl F9 N9 (.head _) (fun q hq => .tail _ (hqm q hq)) hqok hqne (by ke_room) ?_
          rintro q2 h' tk' hq2 hb2 F8 N8
          clear F9 N9
          (try dsimp only)
          (try k_fold)
          k_steps
          refine Hold.to ?_
          rename Fr _ _ _ _ => F9
          rename News _ _ _ _ => N9
          have hb12 : ltB q2.b q1.b = false := by rw [hb1, hb2]; exact min_max (by rw [hqb]; exact hne)
          have hs1 := hqok q1 hq1
          have hs2 := hqok q2 hq2
          have hq17 : q1.b.length ≤ 7 := h7 _ (hqb ▸ List.mem_map.mpr ⟨q1, hq1, rfl⟩)
          have hlcp : cpAll bss = lcp q1.b q2.b := by rw [hb1, hb2, hqb]; rfl
          generalize hb4 : (D3, LCg.lst (qs.map SpD.ref)) :: (spLed qs ++ b2) = b4 at N9
          have i2 : ∀ p ∈ b2, p ∈ b4 := fun p hp => hb4 ▸ .tail _ (List.mem_append.mpr (.inr hp))
          have mq1 : q1.obj ∈ b4 := hb4 ▸ .tail _ (hqm q1 hq1)
          have mq2 : q2.obj ∈ b4 := hb4 ▸ .tail _ (hqm q2 hq2)
          refine fo_enumC (nn := q1.n) (vs := q1.vs) [(Str.ofString "s1", .ref q1.a), (Str.ofString "s2", .ref q2.a), (Str.ofString "common", .ref q1.a), (Str.ofString "isabs", .bool true)] (fun i => Agree q1.b q2.b i) [(Str.ofString "isabs", .bool true)] b2 ((lcp q1.b q2.b).map nameS) rfl rfl F9 N9 mq1 (by kst_all) ⟨Nat.zero_le _, rfl⟩ ?_ ?_ ?_
          · intro i v t u h tk own hv hP F1 N1
            obtain ⟨y1, t1, rfl, hy1⟩ := hs1.item i v hv
            rw [List.getElem?_map] at hy1
            obtain ⟨x1, hx1, rfl⟩ : ∃ x, q1.b[i]? = some x ∧ nameS x = y1 := by
              cases hb : q1.b[i]? with
              | none => rw [hb] at hy1; cases hy1
              | some x => rw [hb] at hy1; exact ⟨x, rfl, Option.some.inj hy1⟩
            have hi1 := (List.getElem?_eq_some_iff.mp hx1).1
            have hi2 := agree_len hP hb12 hi1
            have hx2 : q2.b[i]? = some q2.b[i] := List.getElem?_eq_getElem hi2
            generalize q2.b[i] = x2 at hx2
            obtain ⟨v2, hv2⟩ : ∃ v, q2.vs[i]? = some v := ⟨_, List.getElem?_eq_getElem (by rw [hs2.length, List.length_map]; exact hi2)⟩
            obtain ⟨y2, t2, rfl, hy2⟩ := hs2.item i v2 hv2
            rw [List.getElem?_map, hx2] at hy2
            have hy2 := Option.some.inj hy2
            subst hy2
            generalize hnw : own ++ b4 = nw at N1
            have m1 : q1.obj ∈ nw := hnw ▸ List.mem_append.mpr (.inr mq1)
            have m2 : q2.obj ∈ nw := hnw ▸ List.mem_append.mpr (.inr mq2)
            dsimp only [kstB] at F1
            have hq1v : q1.vs.length ≤ 7 := by rw [hs1.length, List.length_map]; exact hq17
            cases x1 with
            | true =>
              cases x2 with
              | true =>
                rw [show nameS true = Str.ofString "ab" from rfl] at F1 hv2
                (try k_fold)
                k_steps
                refine Hold.to ?_
                subst hnw
                exact epost F1 N1 (by kst_all) (agree_next hP hx1 hx2)
              | false =>
                have hle : lcp q1.b q2.b = q1.b.take i := agree_diff hP.2 hx1 hx2 (by decide)
                rw [show nameS true = Str.ofString "ab" from rfl] at F1
                rw [show nameS false = Str.ofString "a" from rfl] at hv2
                (try k_fold)
                k_steps
                refine Hold.to ?_
                rename Fr _ _ _ _ => F6
                rename News _ _ _ _ => N6
                subst hnw
                exact ebrk (cend _ (q1.vs.take i) 0 F6 N6 (.head _) (fun p hp => .tail _ (List.mem_append.mpr (.inr (i2 p hp)))) (by rw [hle, List.map_take]; exact hs1.take' i) (by with_unfolding_all rfl) (by kst_all))
            | false =>
              cases x2 with
              | false =>
                rw [show nameS false = Str.ofString "a" from rfl] at F1 hv2
                (try k_fold)
                k_steps
                refine Hold.to ?_
                subst hnw
                exact epost F1 N1 (by kst_all) (agree_next hP hx1 hx2)
              | true =>
                have hle : lcp q1.b q2.b = q1.b.take i := agree_diff hP.2 hx1 hx2 (by decide)
                rw [show nameS false = Str.ofString "a" from rfl] at F1
                rw [show nameS true = Str.ofString "ab" from rfl] at hv2
                (try k_fold)
                k_steps
                refine Hold.to ?_
                rename Fr _ _ _ _ => F6
                rename News _ _ _ _ => N6
                subst hnw
                exact ebrk (cend _ (q1.vs.take i) 0 F6 N6 (.head _) (fun p hp => .tail _ (List.mem_append.mpr (.inr (i2 p hp)))) (by rw [hle, List.map_take]; exact hs1.take' i) (by with_unfolding_all rfl) (by kst_all))
          · intro u h tk hP F1 N1
            have hle : lcp q1.b q2.b = q1.b := agree_done (by have h8 := hs1.length; rw [List.length_map] at h8; rw [← h8]; exact hP)
            exact cend q1.a q1.vs q1.n F1 N1 mq1 i2 (by rw [hle]; exact hs1) (by with_unfolding_all rfl) (by kst_all)
          · intro a9 us k m9 h9 tk9 nw9 F1 N1 ma hkeep hus hc hp9
            have F5 := frTell F1 [(Str.ofString "common", .ref a9), (Str.ofString "isabs", .bool true)] (by
              intro p hp
              rcases List.mem_cons.mp hp with e | hp
              · rw [e]; exact hc
              · exact hp9 p hp)
            have mS9 := hkeep _ mS
            have mC9 := hkeep _ mC
            dsimp only [kstB] at F5
            have hcp7 := lcp_len _ q2.b hq17
            have hsum := names_sum _ hcp7
            have hjo := jo_is _ hcp7
            have hjl := joinTo_lenP (lcp q1.b q2.b)
            have hJl : (Txt.join (Str.ofString "/") ((lcp q1.b q2.b).map nameS)).length < 1000 := by
              have h8 := congrArg Str.length hjo
              rw [Str.length_append] at h8
              have h9 : (Txt.join slash ((lcp q1.b q2.b).map nameS)).length ≤ (joinTo (lcp q1.b q2.b)).length := by lia
              exact Nat.lt_of_le_of_lt h9 (by lia)
            (try dsimp only)
            (try k_fold)
            k_steps
            rename Fr _ _ _ _ => F9
            rename News _ _ _ _ => N9
            have hje : Str.ofString "/" ++ Txt.join (Str.ofString "/") ((lcp q1.b q2.b).map nameS) = joinTo (cpAll bss) := by rw [hlcp]; exact hjo
            rw [hje]
            have hnm : ∀ p ∈ news, p ∈ base := fun p hp => hbase ▸ .tail _ (.tail _ (.tail _ hp))
            exact hret _ _ _ _ ⟨⟨_, rfl⟩, rfl⟩ F9 fun p hp => N9 p (hkeep _ (iD _ (hnm p hp)))
end
section
theorem SecLaw.onLaw : True := True.intro
open SecLaw
local macro_rules  | `(tactic| k_qdec) => `(tactic| decide +kernel)
theorem kw_Law_1 : True := by
  k_with "@Law" => guard_expr onLaw = onLaw
  k_with "execs cons" => (k_extra "@Law"; first | (with_reducible refine execs_one ?_) | (with_reducible refine execs_gen ?_; intro _ _ _ _ _) | (with_reducible refine post_gen ?_; intro _ _; first | (with_reducible refine execs_one ?_) | (with_reducible refine execs_gen ?_; intro _ _ _ _ _)))
  k_with "execs cons" => (k_extra "@Law"; (k_here; k_gentoks))
  k_with "call type:range" => (k_extra "@Law"; (k_here; k_dflt (refine' range1_rows ?z9ka ?z9kb ?_; (case z9ka => k_asm); (case z9kb => k_asm); k_whole); intro _ _ _ _ _ hR9 F9 N9 _))
  k_with "compareOp NotEq ref ref" => (k_extra "@Law"; (k_here; (with_reducible show wpAny _ _ (compareOp CmpOp.NotEq (Value.ref _) (Value.ref _)) _ _ _); k_dflt (refine' ne_ints_same ?z9ka ?z9kb ?z9kc ?z9kd ?z9ke ?z9kf ?_; (case z9ka => k_asm); (case z9kb => k_mem); (case z9kc => k_mem); (case z9kd => with_reducible assumption); (case z9ke => with_reducible assumption); (case z9kf => ke_room); k_whole)))
  k_with "subscriptTail Name Name ref int" => (k_extra "@Law"; (k_here; (with_reducible show wpAny _ _ (subscriptTail _ _ (Value.ref _) (Value.int (Nat.cast _) _)) _ _ _); k_dflt (refine' item_atN ?z9kn ?z9km ?z9kx ?z9ki ?_; (case z9kn => k_asm); (case z9km => k_mem); (case z9kx => with_reducible assumption); (case z9ki => lia); k_whole)))
  k_with "call ref" => (k_extra "@Law"; ((with_reducible show wpAny _ _ (call (Value.ref 858) _) _ _ _); refine Hold.of ?_))
  k_with "call ref" => (k_extra "@Law"; ((with_reducible show wpAny _ _ (call (Value.ref 879) _) _ _ _); refine Hold.of ?_))
  k_with "call ref" => (k_extra "@Law"; ((with_reducible show wpAny _ _ (call (Value.ref 865) _) _ _ _); refine Hold.of ?_))
  k_with "call ref" => (k_extra "@Law"; ((with_reducible show wpAny _ _ (call (Value.ref 886) _) _ _ _); refine Hold.of ?_))
  k_with "call ref" => (k_extra "@Law"; ((with_reducible show wpAny _ _ (call (Value.ref 145) _) _ _ _); refine Hold.of ?_))
  k_with "call ref" => (k_extra "@Law"; ((with_reducible show wpAny _ _ (call (Value.ref 853) _) _ _ _); refine Hold.of ?_))
  k_with "call builtin:min" => (k_extra "@Law"; ((show wpAny _ _ (call (Value.builtin "min") [Value.ref _]) _ _ _); refine Hold.of ?_))
  k_with "call builtin:len" => (k_extra "@Law"; (k_here; (show wpAny _ _ (call (Value.builtin "len") [Value.ref _]) _ _ _); k_dflt (refine' len5_N ?z9ka ?z9kb ?z9kc ?_; (case z9ka => k_asm); (case z9kb => k_mem); (case z9kc => (simp only [List.length_map]; with_reducible assumption)); k_whole)))
  k_with "call ref" => (k_extra "@Law"; (k_here; (with_reducible show wpAny _ _ (call (Value.ref 872) _) _ _ _); k_dflt (refine' Claim.u3 (fraction _ _ _ _ ?z9kx) ?z9k1 ?z9k2 ?z9k3 ?z9k4 ?z9k5 ?z9kK ?z9kd ?z9ku ?_; k_extra "K5"; (case z9kx => lia); (case z9kK => first | exact rfl | assumption); (case z9kd => ktr_room); (case z9ku => ktr_units)); intro l9 ta9 tb9 h9 tk9 hlt9 F9 N9; (try dsimp only); (try k_fold)))
  k_with "call builtin:str.join" => (k_extra "@Law"; (k_here; (show wpAny _ _ (call (Value.builtin "str.join") [Value.str _ _, Value.ref _]) _ _ _); k_dflt (refine' join_N ?z9ka ?z9kb ?z9kc ?z9kd ?_; (case z9ka => k_asm); (case z9kb => k_mem); (case z9kc => with_reducible assumption); (case z9kd => exact words_sum _); k_whole); intro t9 k9))
  k_with "call ref" => (k_extra "@Law"; ((with_reducible show wpAny _ _ (call (Value.ref 846) _) _ _ _); refine Hold.of ?_))
  k_with "call ref" => (k_extra "@Law"; (k_here; (with_reducible show wpAny _ _ (call (Value.ref 152) _) _ _ _); k_dflt (refine' Claim.u0t (int2ap _ _ _ _ ?z9kx) ?z9k1 ?z9k2 ?z9k3 ?z9k4 ?z9k5 ?z9kK ?z9kd ?z9ku ?_; k_extra "K5"; (case z9kx => lia); (case z9kK => first | exact rfl | assumption); (case z9kd => ktr_room); (case z9ku => ktr_units)); intro t9 h9 tk9 F9 N9; (try dsimp only); (try k_fold)))
  k_with "call builtin:bytes.decode" => (k_extra "@Law"; (k_here; (with_reducible show wpAny _ _ (call _ [Value.bytes (List.toArray (apB _)) _, _]) _ _ _); (refine Dec.decode (apB_small _).1 (Nat.le_trans (apB_small _).2 (by decide)) ?_); intro t9 k9))
  k_with "call builtin:list.append" => (k_extra "@Law"; (k_here; (with_reducible show wpAny _ _ (call (Value.builtin _) [Value.ref _, _]) _ _ _); k_dflt (refine' append_K ?z9k1 ?z9k2 ?z9k3 ?_ ?z9z; (case z9k1 => k_asm); (case z9k2 => k_asm); (case z9k3 => k_upd); (case z9z => first | decide | ((rw [PySem.sizeLine_eq]); simp; lia)); k_whole); intro h' F' N'; (simp only [List.push_toArray] at N')))
  trivial
theorem commonp2 (w : World) (l : Addr) (vs : List Value) (n : Nat) (a b : List Bool) (news : List (Addr × Obj)) (hl : (l, listOf vs.toArray n) ∈ news) (hx : StrsAre vs [joinTo a, joinTo b]) (ha : a.length ≤ 7) (hb : b.length ≤ 7) :
    Claim w 145 20 100 news [.ref l] (fun v news' => (∃ t', v = .str (joinTo (lcp a b)) t') ∧ news' = news) := by
  have C := commonp w l vs n [a, b] news hl hx (by simp) (by simp) (by intro c hc; rcases List.mem_cons.mp hc with rfl | hc; exact ha; rw [List.mem_singleton.mp hc]; exact hb)
  rwa [cpAll_two] at C
set_option maxHeartbeats 8000000 in
theorem cw : PySem.Challenge.rw_ik0085_01.Holds := by
    w_on
    refine holds_law said0 fun said => ?_
    refine PySem.W.holds_open (q := hd.view_39) (loose := looseN) (Xt := XtN) (XP := XL hd.view_39 []) (Yf := hk.obs) (Ya := hk.val) (YP := hk.says) (N := 11800) leftT (Hook.of hk) (Hook.keeps hk) (fun s e => xl_of s (Bool.and_eq_true_iff.mp e).1) XL.keeps (by rfl) (by rfl) (by rfl) (fun s e => recFacts_of (Bool.and_eq_true_iff.mp e).2) (by rfl) (by first | assumption | decide +kernel) (by decide +kernel) ⟨rfl, rfl, rfl, rfl, rfl, by decide +kernel⟩ ?hw ?hc
    case hw => w_witness2
    clear said
    k_go0
    k_steps
    refine Hold.to ?_
    rename Fr _ _ _ _ => F9
    rename News _ _ _ _ => N9
    rename IntsAre _ _ => hI
    obtain ⟨lD, vD, rfl, rfl⟩ := one_name N9
    obtain ⟨zs, rfl⟩ := script_name hI
    refine LCg.CompSrc.ledger rfl F9 N9 (.head _) (by rw [PySem.sizeLine_eq, List.size_toArray, hI.length]; simp; lia) ?_
    intro g9
    refine compInv (fun i ys nw => nw = [(lD, listOf vD.toArray 0)] ∧ IntsAre ys (((zs.take 5).take i).map cut)) ⟨rfl, .nil⟩ ?_ ?_
    · rintro i v ys nw I oI C oC D m2 h tk E' ⟨rfl, hy⟩ hi hv hC hx2 F1 N1 off ne
      obtain ⟨z, tz, rfl, hz⟩ := hI.at i v (by simpa using hv)
      (try k_fold)
      k_steps
      refine Hold.to ?_
      rename Fr _ _ _ _ => F8
      rename News _ _ _ _ => N8
      refine LCg.CompEnd.intro F8 N8 _ (by kst_in) off (.inr ⟨_, .head _, rfl, _, rfl⟩) ⟨rfl, ?_⟩
      rw [List.take_add_one, hz, List.map_append]
      exact IntsAre.append hy (.cons _ _ .nil)
    · rintro ys nw ⟨rfl, hy⟩
      rw [List.size_toArray, hI.length, List.take_length] at hy
      intro D h tk F1 N1 off
      (try k_fold)
      iterate 19 (first | (k_unfold; (try dsimp only)) | walk1 | (dsimp only; walk1) | skip)
      refine kba_turn (value' := PySem.Expr.Name (PySem.Str.ofString "_") ⟨0, 0, 0, 0⟩) (fun _ => rfl) ?_
      k_steps
      refine Hold.to ?_
      rename Fr _ _ _ _ => F8
      rename News _ _ _ _ => N8
      rename IntsAre _ (List.take 5 _) => hN
      change IntsAre _ (numZ zs) at hN
      obtain ⟨vN, rfl⟩ := ints_name hN
      have N7 : News _ _ _ [(_, listOf vN.toArray 0)] := kst_newsOf N8 (by kst_in)
      obtain ⟨lN, _, rfl, _⟩ := one_name N7
      refine LCg.CompSrc.ledger rfl F8 N7 (.head _) (by rw [PySem.sizeLine_eq, List.size_toArray, hN.length, numZ_len]; decide) ?_
      intro g8
      refine compInv (fun i ys nw => nw = [(lN, listOf vN.toArray 0)] ∧ StrsAre ys (((numN zs).take i).map wordS)) ⟨rfl, .nil⟩ ?_ ?_
      · rintro i v ys nw I oI C oC D m2 h tk E' ⟨rfl, hy⟩ hi hv hC hx2 F1 N1 off ne
        obtain ⟨z, tz, rfl, hz⟩ := hN.at i v (by simpa using hv)
        obtain ⟨n, rfl, hn, hz⟩ := nat_of zs i z hz
        (try k_fold)
        k_steps
        refine Hold.to ?_
        rename Fr _ _ _ _ => F6
        rename News _ _ _ _ => N6
        refine LCg.CompEnd.intro F6 N6 _ (by kst_in) off (.inr ⟨_, .head _, rfl, _, rfl⟩) ⟨rfl, ?_⟩
        rw [List.take_add_one, hz, List.map_append, apB_codes]
        exact StrsAre.append' hy (.cons _ _ .nil)
      · rintro ys nw ⟨rfl, hy⟩
        rw [List.size_toArray, hN.length, numZ_len, List.take_of_length_le (Nat.le_of_eq (numN_len zs))] at hy
        intro D h tk F1 N1 off
        (try k_fold)
        k_steps
        refine Hold.to ?_
        rename Fr _ _ _ _ => F6
        rename News _ _ _ _ => N6
        change Fr _ _ _ _ at F6
        have N5 : News _ _ _ [(lN, listOf vN.toArray 0)] := kst_newsOf N6 (by kst_in)
        refine Claim.u3 (rows _ (lineS zs) _ [(lN, listOf vN.toArray 0)] (tsOf (wsOf zs)) (Nat.lt_of_le_of_lt (lineS_len zs) (by decide)) (lineS_ok zs) (lineS_toks zs) (Nat.lt_of_le_of_lt (lineS_ts zs) (by decide))) (by k_asm) (by k_asm) (by k_asm) N5 (by k_asm) (by exact rfl) (by ktr_room) (by ktr_units) ?_
        intro R nR rs h9 tk9 hR9 F4 N4
        have htoks := hR9.1
        have hok := hR9.2
        clear hR9
        rw [lineS_rows] at htoks
        clear N5 N6
        have hrl := rows_len htoks
        have N3 : News _ _ _ ((R, listOf (rs.map RowD.ref).toArray nR) :: (lN, listOf vN.toArray 0) :: rowLed rs) := fun p hp => N4 p (by
          rcases List.mem_cons.mp hp with e | hp
          · exact e ▸ .head _
          · rcases List.mem_cons.mp hp with e | hp
            · exact .tail _ (List.mem_append.mpr (.inr (e ▸ .head _)))
            · exact .tail _ (List.mem_append.mpr (.inl hp)))
        clear N4
        (try dsimp only)
        (try k_fold)
        k_steps
        refine Hold.to ?_
        rename Fr _ _ _ _ => F6
        rename News _ _ _ _ => N6
        refine LCg.CompSrc.ledger rfl F6 N6 (.tail _ (.head _)) (by rw [PySem.sizeLine_eq, List.size_toArray, hN.length, numZ_len]; decide) ?_
        intro g7
        generalize hbase : ((R, listOf (rs.map RowD.ref).toArray nR) :: (lN, listOf vN.toArray 0) :: rowLed rs) = base
        have hRm : (R, listOf (rs.map RowD.ref).toArray nR) ∈ base := hbase ▸ .head _
        have hNm : (lN, listOf vN.toArray 0) ∈ base := hbase ▸ .tail _ (.head _)
        have hrm : ∀ r ∈ rs, r.obj ∈ base := fun r hr => hbase ▸ .tail _ (.tail _ (List.mem_map.mpr ⟨r, hr, rfl⟩))
        refine compInv (fun i ys nw => ∃ fs : List FrD, nw = frLed fs ++ base ∧ ys = fs.map FrD.ref ∧ fs.map FrD.n = (numN zs).take i) ⟨[], rfl, rfl, rfl⟩ ?_ ?_
        · rintro i v ys nw I oI C oC D m2 h tk E' ⟨fs, rfl, rfl, hfs⟩ hi hv hC hx2 F1 N1 off ne
          obtain ⟨z, tz, rfl, hz⟩ := hN.at i v (by simpa using hv)
          obtain ⟨n, rfl, hn, hz⟩ := nat_of zs i z hz
          generalize hnw : frLed fs ++ base = nw at N1
          (try k_fold)
          k_steps
          refine Hold.to ?_
          rename Fr _ _ _ _ => F8
          rename News _ _ _ _ => N8
          rename ∀ p : Addr × Obj, p ∈ _ → p.1 < _ => hlt
          rw [(frac_val n).1, (frac_val n).2] at N8
          obtain ⟨lf, rfl⟩ := head_name N8
          have q1 : I < lf := hlt _ (.head _)
          have q2 : C < lf := hlt _ (.tail _ (.head _))
          have q3 : D < lf := hlt _ (.tail _ (.tail _ (.head _)))
          subst hnw
          refine LCg.CompEnd.intro F8 N8 (frLed (fs ++ [⟨lf, n, _, _⟩]) ++ base) (fun p hp => fr_mem hp) (off3_fr off (Nat.ne_of_gt q1) (Nat.ne_of_gt q2) (Nat.ne_of_gt q3)) (.inr ⟨_, List.mem_append.mpr (.inr hNm), rfl, _, rfl⟩) ⟨_, rfl, by rw [List.map_append]; rfl, ?_⟩
          rw [List.take_add_one, hz, List.map_append, hfs]; rfl
        · rintro ys nw ⟨fs, rfl, rfl, hfs⟩
          rw [List.size_toArray, hN.length, numZ_len, List.take_of_length_le (Nat.le_of_eq (numN_len zs))] at hfs
          intro D h tk F1 N1 off
          (try k_fold)
          k_steps
          refine Hold.to ?_
          rename Fr _ _ _ _ => F8
          rename News _ _ _ _ => N8
          obtain ⟨lF, rfl⟩ := head_name N8
          refine LCg.CompSrc.ledger (ax := R) rfl F8 N8 (.tail _ (List.mem_append.mpr (.inr hRm))) (by rw [PySem.sizeLine_eq, List.size_toArray, List.length_map, hrl]; decide) ?_
          intro g6
          refine compInv (fun i ys nw => nw = (lF, LCg.lst (fs.map FrD.ref)) :: (frLed fs ++ base) ∧ StrsAre ys (((numN zs).take i).map fun n => joinTo (bits n))) ⟨rfl, .nil⟩ ?_ ?_
          · rintro i v ys nw I oI C oC D m2 h tk E' ⟨rfl, hy⟩ hi hv hC hx2 F1 N1 off ne
            have hi5 : i < 5 := by rw [List.size_toArray, List.length_map, hrl] at hi; exact hi
            obtain ⟨n, hn⟩ : ∃ n, (numN zs)[i]? = some n := ⟨_, List.getElem?_eq_getElem (by rw [numN_len]; exact hi5)⟩
            obtain ⟨r, hr, hrs⟩ := row_at htoks hok hn
            have hv' : v = r.ref := by
              rw [List.getElem?_toArray, List.getElem?_map, hr] at hv
              exact (Option.some.inj hv).symm
            subst hv'
            (try k_fold)
            k_steps
            refine Hold.to ?_
            rename Fr _ _ _ _ => F6
            rename News _ _ _ _ => N6
            refine Claim.u0t (path _ r.a r.vs r.n (runsN n) _ (.tail _ (.tail _ (.tail _ (.tail _ (List.mem_append.mpr (.inr (hrm r (List.mem_of_getElem? hr)))))))) hrs (runsN_ok n).1 (by rw [runsN_bits]; exact bits_len n)) (by k_asm) (by k_asm) (by k_asm) N6 (by k_asm) (by exact rfl) (by ktr_room) (by ktr_units) ?_
            intro t9 h9 tk9 F5 N5
            (try dsimp only)
            (try k_fold)
            k_steps
            refine Hold.to ?_
            rename Fr _ _ _ _ => F4
            rename News _ _ _ _ => N4
            refine LCg.CompEnd.intro F4 N4 _ (fun p hp => hp) off (.inr ⟨_, .tail _ (List.mem_append.mpr (.inr hRm)), rfl, _, rfl⟩) ⟨rfl, ?_⟩
            rw [List.take_add_one, hn, List.map_append, runsN_bits]
            exact StrsAre.append' hy (.cons _ _ .nil)
          · rintro ys nw ⟨rfl, hy⟩
            rw [List.size_toArray, List.length_map, hrl, List.take_of_length_le (Nat.le_of_eq (numN_len zs))] at hy
            intro D h tk F1 N1 off
            (try k_fold)
            k_steps
            refine Hold.to ?_
            rename Fr _ _ _ _ => F8
            rename News _ _ _ _ => N8
            rename IsRange _ _ _ _ _ _ _ _ => hR8
            obtain ⟨ls, rfl⟩ := head_name N8
            generalize hb3 : ((D, LCg.lst ys) :: (lF, LCg.lst (fs.map FrD.ref)) :: (frLed fs ++ base)) = b3 at N8
            have hPm : (D, LCg.lst ys) ∈ b3 := hb3 ▸ .head _
            have hFm : (lF, LCg.lst (fs.map FrD.ref)) ∈ b3 := hb3 ▸ .tail _ (.head _)
            have hfm : ∀ f ∈ fs, f.obj ∈ b3 := fun f hf => hb3 ▸ .tail _ (.tail _ (List.mem_append.mpr (.inl (List.mem_map.mpr ⟨f, hf, rfl⟩))))
            have hbm : ∀ p ∈ base, p ∈ b3 := fun p hp => hb3 ▸ .tail _ (.tail _ (List.mem_append.mpr (.inr hp)))
            rename _ ∧ _ ∧ AllLt _ _ => l8
            have hls : ∀ p ∈ b3, p.1 ≠ ls := ls_off hb3 l8
            refine fo_rangeL (σ := OSt) (n := 5) (l := D) (ol := LCg.lst ys) (fun c => (ls, listOf (c.ss.map SiD.ref).toArray c.n) :: (siLed c.ss ++ b3))
              (fun _ => [(Str.ofString "rows", .ref R), (Str.ofString "fractions", .ref lF), (Str.ofString "paths", .ref D), (Str.ofString "simplest", .ref ls)])
              (fun i c => c.ss.map SiD.val = prsTo (numN zs) i ∧ ∀ q ∈ c.ss, q.a ≠ ls) ⟨[], 0⟩ rfl rfl hR8 (by decide) (by decide) (fun c => .tail _ (List.mem_append.mpr (.inr hPm))) F8 N8 (by kst_all) ⟨rfl, fun _ h => nomatch h⟩ ?_ ?_
            · rintro i tv ⟨ss, n⟩ u h tk I oI hi hP hoff F1 N1
              dsimp only [kstB] at F1 N1 hP hoff ⊢
              obtain ⟨nl, hnl⟩ : ∃ n, (numN zs)[i]? = some n := ⟨_, List.getElem?_eq_getElem (by rw [numN_len]; exact hi)⟩
              obtain ⟨f, hf, rfl, hfr⟩ := fr_at hfs hnl
              obtain ⟨r, hr, hrs⟩ := row_at htoks hok hnl
              obtain ⟨tp, htp⟩ := path_at hy hnl
              have hrr : (rs.map RowD.ref)[i]? = some r.ref := by rw [List.getElem?_map, hr]; rfl
              generalize htl : siLed ss ++ b3 = tl at N1 hoff
              have hb : ∀ p ∈ b3, p ∈ tl := fun p hp => htl ▸ List.mem_append.mpr (.inr hp)
              have m1 : (R, listOf (rs.map RowD.ref).toArray nR) ∈ tl := hb _ (hbm _ hRm)
              have m2 : (lF, LCg.lst (fs.map FrD.ref)) ∈ tl := hb _ hFm
              have m3 : (D, LCg.lst ys) ∈ tl := hb _ hPm
              have m4 : (f.a, tupOf [.int (vT (bits f.n)) f.t1, .int (vB (bits f.n)) f.t2]) ∈ tl := hb _ (hfm f (List.mem_of_getElem? hf))
              have m5 : (r.a, listOf r.vs.toArray r.n) ∈ tl := hb _ (hbm _ (hrm r (List.mem_of_getElem? hr)))
              (try k_fold)
              have v7 := v_lt (bits f.n) (bits_len f.n)
              k_steps
              refine Hold.to ?_
              rename News _ _ _ _ => N6
              refine Claim.u3 (lengths _ r.a r.vs r.n (runsN f.n) _ (.tail _ (.tail _ m5)) hrs (runsN_ok f.n).1 (runsN_ok f.n).2) (by k_asm) (by k_asm) (by k_asm) N6 (by k_asm) (by exact rfl) (by ktr_room) (by ktr_units) ?_
              intro lA wsA nA h9 tk9 hR9 F5 N5
              have hIA := hR9.1
              have hltA := hR9.2
              clear hR9
              rw [runsN_quots f.n 1000 (by decide)] at hIA
              clear N6
              (try dsimp only)
              (try k_fold)
              k_steps
              refine Hold.to ?_
              rename News _ _ _ _ => N6
              refine Claim.u3 (quotients _ (vT (bits f.n)) (vB (bits f.n)) _ _ _ (by lia) (by lia) (by lia) (by lia) 1000 (by lia)) (by k_asm) (by k_asm) (by k_asm) N6 (by k_asm) (by exact rfl) (by ktr_room) (by ktr_units) ?_
              intro lB wsB nB h9 tk9 hR9 F4 N4
              have hIB := hR9.1
              have hltB := hR9.2
              clear hR9
              clear N6
              (try dsimp only)
              (try k_fold)
              k_steps
              refine Hold.to ?_
              rename News _ _ _ _ => N6
              refine Claim.u3 (climb _ (joinTo (bits f.n)) (bits f.n).reverse _ _ (climbs_join _ (bits_len f.n))) (by k_asm) (by k_asm) (by k_asm) N6 (by k_asm) (by exact rfl) (by ktr_room) (by ktr_units) ?_
              intro lC tC1 tC2 h9 tk9 hltC F3 N3
              rw [climb_val] at N3
              clear N6
              (try dsimp only)
              (try k_fold)
              k_steps
              refine Hold.to ?_
              rename Fr _ _ _ _ => F8
              rename News _ _ _ _ => N8
              rename IsRange _ _ _ _ _ _ _ _ => hR7
              have N7 : News _ _ _ ((I, oI) :: (ls, listOf (ss.map SiD.ref).toArray n) :: tl) := kst_newsOf N8 (by kst_in)
              clear N8
              have N6 : News _ _ _ ((ls, listOf (ss.map SiD.ref).toArray n) :: (siLed ss ++ (I, oI) :: b3)) := fun p hp => N7 p (by
                rcases List.mem_cons.mp hp with e | hp
                · exact e ▸ .tail _ (.head _)
                · rw [← htl]
                  rcases List.mem_append.mp hp with hp | hp
                  · exact .tail _ (.tail _ (List.mem_append.mpr (.inl hp)))
                  · rcases List.mem_cons.mp hp with e | hp
                    · exact e ▸ .head _
                    · exact .tail _ (.tail _ (List.mem_append.mpr (.inr hp))))
              refine fo_rangeL (σ := OSt) (n := i) (l := D) (ol := LCg.lst ys) (fun c => (ls, listOf (c.ss.map SiD.ref).toArray c.n) :: (siLed c.ss ++ (I, oI) :: b3))
                (fun _ => [(Str.ofString "rows", .ref R), (Str.ofString "fractions", .ref lF), (Str.ofString "paths", .ref D), (Str.ofString "simplest", .ref ls), (Str.ofString "late", .int (i : Int) tv)])
                (fun j c => c.ss.map SiD.val = prsTo (numN zs) i ++ prsIn (numN zs) i j ∧ (∀ q ∈ c.ss, q.a ≠ I) ∧ ∀ q ∈ c.ss, q.a ≠ ls) ⟨ss, n⟩ rfl rfl hR7 (rg_small i (by lia)).1 (rg_small i (by lia)).2 (fun c => .tail _ (List.mem_append.mpr (.inr (.tail _ hPm)))) F8 N6 (by kst_all) ⟨by rw [hP.1]; simp [prsIn], fun q hq => hoff q.obj (.tail _ (htl ▸ List.mem_append.mpr (.inl (List.mem_map.mpr ⟨q, hq, rfl⟩)))), hP.2⟩ ?_ ?_
              · rintro j tvj ⟨ss', n'⟩ u' h' tk' I' oI' hj hP' hoff' F1' N1'
                dsimp only [kstB] at F1' N1' hP' hoff' ⊢
                obtain ⟨nj, hnj⟩ : ∃ n, (numN zs)[j]? = some n := ⟨_, List.getElem?_eq_getElem (by rw [numN_len]; lia)⟩
                obtain ⟨g, hg, rfl, hgr⟩ := fr_at hfs hnj
                obtain ⟨tq, htq⟩ := path_at hy hnj
                generalize htl' : siLed ss' ++ (I, oI) :: b3 = tl' at N1' hoff'
                have hb' : ∀ p ∈ b3, p ∈ tl' := fun p hp => htl' ▸ List.mem_append.mpr (.inr (.tail _ hp))
                have m2' : (lF, LCg.lst (fs.map FrD.ref)) ∈ tl' := hb' _ hFm
                have m3' : (D, LCg.lst ys) ∈ tl' := hb' _ hPm
                have m4' : (f.a, tupOf [.int (vT (bits f.n)) f.t1, .int (vB (bits f.n)) f.t2]) ∈ tl' := hb' _ (hfm f (List.mem_of_getElem? hf))
                have m6' : (g.a, tupOf [.int (vT (bits g.n)) g.t1, .int (vB (bits g.n)) g.t2]) ∈ tl' := hb' _ (hfm g (List.mem_of_getElem? hg))
                have v8 := v_lt (bits g.n) (bits_len g.n)
                clear m1 m2 m3 m4 m5 hIA hIB F8 N6 N7 hR7 hR8
                have hi5 : i < 5 := hi
                have hIls : @Ne Nat ls I := (hoff (ls, listOf (ss.map SiD.ref).toArray n) (.head _) : ls ≠ I)
                have hI'ls : @Ne Nat ls I' := (hoff' (ls, listOf (ss'.map SiD.ref).toArray n') (.head _) : ls ≠ I')
                have hoffls : ∀ p ∈ tl', p.1 ≠ ls := by
                  intro p hp
                  rw [← htl'] at hp
                  rcases List.mem_append.mp hp with hp | hp
                  · obtain ⟨q, hq, rfl⟩ := List.mem_map.mp hp
                    exact hP'.2.2 q hq
                  · rcases List.mem_cons.mp hp with rfl | hp
                    · exact fun e => hIls e.symm
                    · exact hls p hp
                have hlen : ss'.length ≤ 100 := by
                  rw [← List.length_map (f := SiD.val), hP'.1]
                  exact prs_len _ _ _ (Nat.le_of_lt hi5) (Nat.le_trans (Nat.le_of_lt hj) (Nat.le_of_lt hi5))
                (try k_fold)
                k_steps
                refine Hold.to ?_
                rename News _ _ _ _ => N6
                refine Claim.u0t (commonp2 _ _ [_, _] 0 (bits g.n) (bits f.n) _ (.head _) (.cons _ _ (.cons _ _ .nil)) (bits_len _) (bits_len _)) (by k_asm) (by k_asm) (by k_asm) N6 (by k_asm) (by exact rfl) (by ktr_room) (by ktr_units) ?_
                intro t9 h9 tk9 F5 N5
                clear N6
                (try dsimp only)
                (try k_fold)
                k_steps
                refine Hold.to ?_
                rename News _ _ _ _ => N6
                refine Claim.u3 (simplest _ g.a f.a (vT (bits g.n)) (vB (bits g.n)) (vT (bits f.n)) (vB (bits f.n)) (vT (lcp (bits g.n) (bits f.n))) (vB (lcp (bits g.n) (bits f.n))) _ _ _ _ _ (by k_mem) (by k_mem) (by lia) (by lia) (by lia) (by lia) (simpleOf_lcp _ _ (bits_len _))) (by k_asm) (by k_asm) (by k_asm) N6 (by k_asm) (by exact rfl) (by ktr_room) (by ktr_units) ?_
                intro lS tS1 tS2 h9 tk9 hltS F4 N4
                k_lt hltS
                clear N6
                (try dsimp only)
                (try k_fold)
                k_steps
                refine Hold.to ?_
                rename News _ _ _ _ => N6
                refine Claim.u3 (climb _ (joinTo (lcp (bits g.n) (bits f.n))) (lcp (bits g.n) (bits f.n)).reverse _ _ (climbs_join _ (lcp_len _ _ (bits_len _)))) (by k_asm) (by k_asm) (by k_asm) N6 (by k_asm) (by exact rfl) (by ktr_room) (by ktr_units) ?_
                intro lT tT1 tT2 h9 tk9 hltT F3 N3
                k_lt hltT
                rw [climb_val] at N3
                clear N6
                (try dsimp only)
                (try k_fold)
                k_steps
                refine Hold.to ?_
                rename Fr _ _ _ _ => F2
                rename News _ _ _ _ => N2
                obtain ⟨lz, rfl⟩ := head_name N2
                rename _ ∧ _ ∧ _ ∧ _ ∧ _ ∧ _ ∧ AllLt _ _ => l9
                have l7 := l9.2.2.2.2.2.2
                have d1 : ls < lz := by k_extra "ord"
                have d2 : @Ne Nat lz I' := by k_extra "ord"
                refine fend ⟨ss' ++ [⟨lz, vB (lcp (bits g.n) (bits f.n)), vT (lcp (bits g.n) (bits f.n)), tS2, tS1⟩], n' + 1⟩ F2 N2 ?_ (.tail _ (.tail _ (.tail _ (.tail _ (.tail _ (.head _)))))) ?_ (by kst_all) ⟨?_, ?_, ?_⟩
                · exact si_mem htl' (.tail _ (.tail _ (.tail _ (.tail _ (.tail _ (.tail _ (.head _))))))) (.head _) fun p hp => .tail _ (.tail _ (.tail _ (.tail _ (.tail _ (.tail _ (.tail _ hp))))))
                · exact si_off htl' hI'ls d2 fun p hp => hoff' p (.tail _ hp)
                · rw [List.map_append, hP'.1, prsIn_succ, List.append_assoc]
                  unfold prOf
                  rw [share_of hnj hnl]; rfl
                · intro q hq
                  rcases List.mem_append.mp hq with hq | hq
                  · exact hP'.2.1 q hq
                  · rw [List.mem_singleton.mp hq]
                    exact Nat.ne_of_gt (allLt_mem l7 (I, oI) (htl' ▸ List.mem_append.mpr (.inr (.head _))))
                · intro q hq
                  rcases List.mem_append.mp hq with hq | hq
                  · exact hP'.2.2 q hq
                  · rw [List.mem_singleton.mp hq]; exact Nat.ne_of_gt d1
              · rintro ⟨ss', n'⟩ u' h' tk' hP' F1' N1'
                dsimp only [kstB] at F1' N1' hP' ⊢
                (try k_fold)
                k_steps
                refine Hold.to ?_
                rename Fr _ _ _ _ => F7
                rename News _ _ _ _ => N7
                refine fend ⟨ss', n'⟩ F7 N7 ?_ (.tail _ (List.mem_append.mpr (.inr (.head _)))) ?_ (by kst_all) ⟨by rw [prsTo_succ]; exact hP'.1, hP'.2.2⟩
                · intro p hp
                  rcases List.mem_cons.mp hp with e | hp
                  · exact e ▸ .head _
                  · rcases List.mem_append.mp hp with hp | hp
                    · exact .tail _ (List.mem_append.mpr (.inl hp))
                    · exact .tail _ (List.mem_append.mpr (.inr (.tail _ hp)))
                · intro p hp
                  rcases List.mem_cons.mp hp with rfl | hp
                  · exact (hoff (ls, listOf (ss.map SiD.ref).toArray n) (.head _) : ls ≠ I)
                  · rcases List.mem_append.mp hp with hp | hp
                    · obtain ⟨q, hq, rfl⟩ := List.mem_map.mp hp
                      exact hP'.2.1 q hq
                    · exact hoff p (.tail _ (htl ▸ List.mem_append.mpr (.inr hp)))
            · rintro ⟨ss, n⟩ u h tk hP F1 N1
              dsimp only [kstB] at F1 N1 hP ⊢
              (try k_fold)
              k_steps
              refine Hold.to ?_
              rename Fr _ _ _ _ => F8
              rename News _ _ _ _ => N8
              refine min_pairs (ss := ss) rfl F8 N8 (.head _) (fun q hq => .tail _ (List.mem_append.mpr (.inl (List.mem_map.mpr ⟨q, hq, rfl⟩)))) (si_ne hP.1) (by ke_room) ?_
              rintro ⟨qa, qb, qt, q1, q2⟩ h' tk' hq hmin F7 N7
              obtain ⟨e1, e2⟩ := si_at (numN_len zs) hP.1 hq hmin
              dsimp only at e1 e2
              subst e1 e2
              have N5 : News _ _ _ ((qa, tupOf [.int (vB (cpAll ((numN zs).map bits))) q1, .int (vT (cpAll ((numN zs).map bits))) q2]) :: (D, LCg.lst ys) :: []) := fun p hp => N7 p (by
                rcases List.mem_cons.mp hp with e | hp
                · exact e ▸ .tail _ (List.mem_append.mpr (.inl (List.mem_map.mpr ⟨_, hq, rfl⟩)))
                · rw [List.mem_singleton.mp hp]; exact .tail _ (List.mem_append.mpr (.inr hPm)))
              clear N7 N8 F8 hmin hq
              (try dsimp only)
              (try k_fold)
              k_steps
              refine Hold.to ?_
              rename News _ _ _ _ => N6
              have hne : numN zs ≠ [] := fun e => by have := numN_len zs; rw [e] at this; cases this
              refine Claim.u0t (commonp _ D ys ys.length ((numN zs).map bits) _ (.tail _ (.head _)) (paths_all hy) (by simpa using hne) (by rw [List.length_map, numN_len]; decide) (fun b hb => by obtain ⟨n, _, rfl⟩ := List.mem_map.mp hb; exact bits_len n)) (by k_asm) (by k_asm) (by k_asm) N6 (by k_asm) (by exact rfl) (by ktr_room) (by ktr_units) ?_
              intro t9 h9 tk9 F5 N4
              clear N6
              (try dsimp only)
              (try k_fold)
              k_steps
              refine Hold.to ?_
              rename News _ _ _ _ => N6
              refine Claim.u3 (climb _ (joinTo (cpAll ((numN zs).map bits))) (cpAll ((numN zs).map bits)).reverse _ _ (climbs_join _ (cp_len _ hne))) (by k_asm) (by k_asm) (by k_asm) N6 (by k_asm) (by exact rfl) (by ktr_room) (by ktr_units) ?_
              intro lT tT1 tT2 h9 tk9 hltT F3 N3
              rw [climb_val] at N3
              clear N6
              (try dsimp only)
              (try k_fold)
              k_steps
end
end Mine
theorem PySem.Challenge.cw_ik0085_01_holds : PySem.Challenge.rw_ik0085_01.Holds :=
  Mine.cw
