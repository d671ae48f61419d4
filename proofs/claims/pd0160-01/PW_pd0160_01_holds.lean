import PyProof.Rows.All
import Wide.All
import OpenK.AllK
import Wide.FinOn
import Lean
import PySem.Challenge.RW_pd0160_01
set_option Elab.async false
set_option maxRecDepth 100000
set_option maxHeartbeats 8000000
-- Head
open PySem PySem.W PyProof.Rows
namespace Mine
/-! the head by hand: the states of the top's run, piece by piece (printed by a program of mine) -/
noncomputable abbrev pR : Program := PySem.Challenge.pw_pd0160_01
noncomputable def stAt : List Nat → List Stmt → Option Stmt
  | [], _ => none
  | i :: r, l => match r, l[i]? with
    | [], x => x
    | r, some (.FunctionDef _ _ b ..) => stAt r b
    | r, some (.ClassDef _ _ _ b ..) => stAt r b
    | _, _ => none
noncomputable def fnAt (p : List Nat) : Option (Arguments × List Stmt × Scope) := match stAt p pR.main.body with
  | some (.FunctionDef _ a b _ _ _ sc ..) => some (a, b, sc)
  | some (.ClassDef _ _ _ b _ _ sc ..) => some (⟨[], [], none, [], [], none, []⟩, b, sc)
  | _ => none
noncomputable def fnA (p : List Nat) : Arguments := match fnAt p with | some x => x.1 | none => ⟨[], [], none, [], [], none, []⟩
noncomputable def fnB (p : List Nat) : FuncBody := match fnAt p with | some x => .stmts x.2.1 | none => .stmts []
noncomputable def fnS (p : List Nat) : Scope := match fnAt p with | some x => x.2.2 | none => pR.main.scope
noncomputable def dr (P : Params) (x : String) (t : Nat) (v : Value) : DictEntry := ⟨PyData.keyHash P (Str.ofString x), .str (Str.ofString x) t, v⟩
noncomputable def ob3 (P : Params) : Obj := ⟨(.type "dict"), none, (.dict #[dr P "__name__" 165 (.str (.ofString "law_pd0160_01") 634), dr P "__doc__" 166 .none, dr P "__package__" 167 .none, dr P "__loader__" 168 (.builtin "__main__.__loader__#opaque"), dr P "__spec__" 169 .none, dr P "__annotations__" 170 (.ref 6), dr P "__builtins__" 171 (.ref 4), dr P "__file__" 173 (.str (.ofString "/claim/cut.py") 172), dr P "__cached__" 174 .none, dr P "_wall" 193 (.ref 21), dr P "_plain_name" 204 (.ref 28), dr P "ABCMeta" 230 (.ref 45), dr P "_ABCLike" 273 (.ref 78), dr P "_abc_plain_meta" 280 (.ref 87), dr P "fspath" 292 (.ref 94), dr P "_check_arg_types" 305 (.ref 101), dr P "_get_sep" 314 (.ref 108), dr P "join" 325 (.ref 115), dr P "splitroot" 334 (.ref 122), dr P "dirname" 344 (.ref 129), dr P "normpath" 359 (.ref 136), dr P "_NODE_OUT" 364 (.int (-1) 363), dr P "_NODE_DONE" 367 (.int (-2) 366), dr P "_NodeInfo" 404 (.ref 155), dr P "CycleError" 422 (.ref 170), dr P "TopologicalSorter" 541 (.ref 252), dr P "S_IFMT" 550 (.ref 263), dr P "S_IFDIR" 552 (.int 16384 551), dr P "S_IFCHR" 554 (.int 8192 553), dr P "S_IFBLK" 556 (.int 24576 555), dr P "S_IFREG" 558 (.int 32768 557), dr P "S_IFIFO" 560 (.int 4096 559), dr P "S_IFLNK" 562 (.int 40960 561), dr P "S_IFSOCK" 564 (.int 49152 563), dr P "S_ISLNK" 571 (.ref 270), dr P "S_ISUID" 573 (.int 2048 572), dr P "S_ISGID" 575 (.int 1024 574), dr P "S_ISVTX" 577 (.int 512 576), dr P "S_IRUSR" 579 (.int 256 578), dr P "S_IWUSR" 581 (.int 128 580), dr P "S_IXUSR" 583 (.int 64 582), dr P "S_IRGRP" 585 (.int 32 584), dr P "S_IWGRP" 587 (.int 16 586), dr P "S_IXGRP" 589 (.int 8 588), dr P "S_IROTH" 591 (.int 4 590), dr P "S_IWOTH" 593 (.int 2 592), dr P "S_IXOTH" 595 (.int 1 594), dr P "_filemode_table" 621 (.ref 303), dr P "filemode" 633 (.ref 310), dr P "_law_drawn" 641 (.ref 315), dr P "_law_run" 647 (.ref 320), dr P "_law_row" 658 (.ref 327), dr P "_law_told" 664 (.ref 332), dr P "law" 672 (.ref 339)] 54), #[]⟩
noncomputable def ob11 (_ : Params) : Obj := ⟨(.type "tuple"), none, (.seq #[] 0), #[]⟩
noncomputable def ob12 (_ : Params) : Obj := ⟨.none, none, (.fields #[(.int 1 0), (.int 0 0), (.ref 20), (.int 5 0), (.int 0 0), (.ref 27), (.int 11 0), (.int 0 0), (.ref 34), (.int 16 0), (.int 0 0), (.ref 53), (.int 31 0), (.int 0 0), (.ref 86), (.int 35 0), (.int 0 0), (.ref 93), (.int 52 0), (.int 0 0), (.ref 100), (.int 64 0), (.int 0 0), (.ref 107), (.int 69 0), (.int 0 0), (.ref 114), (.int 86 0), (.int 0 0), (.ref 121), (.int 100 0), (.int 0 0), (.ref 128), (.int 108 0), (.int 0 0), (.ref 135), (.int 136 0), (.int 0 0), (.ref 142), (.int 143 0), (.int 0 0), (.ref 166), (.int 145 0), (.int 0 0), (.ref 179), (.int 252 0), (.int 0 0), (.ref 262), (.int 261 0), (.int 0 0), (.ref 269), (.int 276 0), (.int 0 0), (.ref 309), (.int 294 0), (.int 0 0), (.ref 314), (.int 309 0), (.int 0 0), (.ref 319), (.int 333 0), (.int 0 0), (.ref 326), (.int 341 0), (.int 0 0), (.ref 331), (.int 355 0), (.int 0 0), (.ref 338)]), #[]⟩
noncomputable def ob13 (_ : Params) : Obj := ⟨(.type "code"), none, (.fields #[(.str (.ofString "<module>") 182), (.str (.ofString "<module>") 183), (.str (.ofString "/claim/cut.py") 184), (.int 1 0), (.int 0 0), (.int 0 0), (.int 0 0), (.int 0 0), (.ref 11), (.bool false), (.int 181 0), (.ref 12), .none, .none, .none, .none, (.int 185 0), (.int 1 0), (.str (.ofString "/claim/cut.py") 186)]), #[]⟩
noncomputable def ob14 (_ : Params) : Obj := ⟨(.type "frame"), none, .plain, #[(some (.ref 13)), (some (.ref 3)), (some (.ref 3)), none, (some (.str (.ofString "__main__") 164)), none, (some (.ref 0))]⟩
noncomputable def ob15 (_ : Params) : Obj := ⟨(.type "tuple"), none, (.seq #[] 0), #[]⟩
noncomputable def ob16 (_ : Params) : Obj := ⟨.none, none, (.fields #[]), #[]⟩
noncomputable def ob17 (_ : Params) : Obj := ⟨(.type "tuple"), none, (.seq #[(.str (.ofString "k") 190)] 0), #[]⟩
noncomputable def ob18 (_ : Params) : Obj := ⟨(.type "tuple"), none, (.seq #[] 0), #[]⟩
noncomputable def ob19 (_ : Params) : Obj := ⟨.none, none, (.func ⟨(.ofString "_wall"), (.ofString "_wall"), (fnA [0]), (fnB [0]), (fnS [0]), 0, [], .none, .none, .none, .none, none, .none, .none, 0⟩), #[]⟩
noncomputable def ob20 (_ : Params) : Obj := ⟨(.type "code"), none, (.fields #[(.str (.ofString "_wall") 187), (.str (.ofString "_wall") 188), (.str (.ofString "/claim/cut.py") 189), (.int 1 0), (.int 1 0), (.int 0 0), (.int 0 0), (.int 3 0), (.ref 15), (.bool true), (.int 181 0), (.ref 16), .none, (.ref 17), (.ref 18), (.ref 19), (.int 191 0), (.int 1 0), (.str (.ofString "/claim/cut.py") 192)]), #[]⟩
noncomputable def ob21 (_ : Params) : Obj := ⟨(.type "function"), none, (.func ⟨(.ofString "_wall"), (.ofString "_wall"), (fnA [0]), (fnB [0]), (fnS [0]), 3, [], .none, .none, .none, (.str (.ofString "__main__") 164), none, (.ref 20), .none, 0⟩), #[]⟩
noncomputable def ob22 (_ : Params) : Obj := ⟨(.type "tuple"), none, (.seq #[] 0), #[]⟩
noncomputable def ob23 (_ : Params) : Obj := ⟨.none, none, (.fields #[]), #[]⟩
noncomputable def ob24 (_ : Params) : Obj := ⟨(.type "tuple"), none, (.seq #[(.str (.ofString "x") 199), (.str (.ofString "what") 200), (.str (.ofString "kind") 201)] 0), #[]⟩
noncomputable def ob25 (_ : Params) : Obj := ⟨(.type "tuple"), none, (.seq #[] 0), #[]⟩
noncomputable def ob26 (_ : Params) : Obj := ⟨.none, none, (.func ⟨(.ofString "_plain_name"), (.ofString "_plain_name"), (fnA [2]), (fnB [2]), (fnS [2]), 0, [], .none, .none, .none, .none, none, .none, .none, 0⟩), #[]⟩
noncomputable def ob27 (_ : Params) : Obj := ⟨(.type "code"), none, (.fields #[(.str (.ofString "_plain_name") 196), (.str (.ofString "_plain_name") 197), (.str (.ofString "/claim/cut.py") 198), (.int 5 0), (.int 2 0), (.int 0 0), (.int 0 0), (.int 3 0), (.ref 22), (.bool true), (.int 181 0), (.ref 23), .none, (.ref 24), (.ref 25), (.ref 26), (.int 202 0), (.int 5 0), (.str (.ofString "/claim/cut.py") 203)]), #[]⟩
noncomputable def ob28 (_ : Params) : Obj := ⟨(.type "function"), none, (.func ⟨(.ofString "_plain_name"), (.ofString "_plain_name"), (fnA [2]), (fnB [2]), (fnS [2]), 3, [], .none, .none, .none, (.str (.ofString "os") 194), none, (.ref 27), .none, 0⟩), #[]⟩
noncomputable def ob29 (_ : Params) : Obj := ⟨(.type "tuple"), none, (.seq #[(.type "type")] 0), #[]⟩
noncomputable def ob30 (_ : Params) : Obj := ⟨(.type "builtin_function_or_method"), none, (.fields #[(.builtin "type.__prepare__"), (.type "type")]), #[]⟩
noncomputable def ob31 (P : Params) : Obj := ⟨(.type "dict"), none, (.dict #[dr P "__module__" 214 (.str (.ofString "abc") 205), dr P "__qualname__" 216 (.str (.ofString "ABCMeta") 215), dr P "__firstlineno__" 218 (.int 11 217), dr P "register" 226 (.ref 42), dr P "__static_attributes__" 227 (.ref 43)] 5), #[]⟩
noncomputable def ob32 (_ : Params) : Obj := ⟨(.type "tuple"), none, (.seq #[] 0), #[]⟩
noncomputable def ob33 (_ : Params) : Obj := ⟨.none, none, (.fields #[(.int 13 0), (.int 4 0), (.ref 41)]), #[]⟩
noncomputable def ob34 (_ : Params) : Obj := ⟨(.type "code"), none, (.fields #[(.str (.ofString "ABCMeta") 209), (.str (.ofString "ABCMeta") 210), (.str (.ofString "/claim/cut.py") 211), (.int 11 0), (.int 0 0), (.int 0 0), (.int 0 0), (.int 0 0), (.ref 32), (.bool false), (.int 181 0), (.ref 33), .none, .none, .none, .none, (.int 212 0), (.int 11 0), (.str (.ofString "/claim/cut.py") 213)]), #[]⟩
noncomputable def ob35 (_ : Params) : Obj := ⟨(.type "frame"), none, .plain, #[(some (.ref 34)), (some (.ref 3)), (some (.ref 31)), none, (some (.str (.ofString "abc") 205)), none, (some (.ref 0))]⟩
noncomputable def ob36 (_ : Params) : Obj := ⟨(.type "tuple"), none, (.seq #[] 0), #[]⟩
noncomputable def ob37 (_ : Params) : Obj := ⟨.none, none, (.fields #[]), #[]⟩
noncomputable def ob38 (_ : Params) : Obj := ⟨(.type "tuple"), none, (.seq #[(.str (.ofString "cls") 222), (.str (.ofString "subclass") 223)] 0), #[]⟩
noncomputable def ob39 (_ : Params) : Obj := ⟨(.type "tuple"), none, (.seq #[] 0), #[]⟩
noncomputable def ob40 (_ : Params) : Obj := ⟨.none, none, (.func ⟨(.ofString "register"), (.ofString "ABCMeta.register"), (fnA [4, 0]), (fnB [4, 0]), (fnS [4, 0]), 0, [], .none, .none, .none, .none, none, .none, .none, 0⟩), #[]⟩
noncomputable def ob41 (_ : Params) : Obj := ⟨(.type "code"), none, (.fields #[(.str (.ofString "register") 219), (.str (.ofString "ABCMeta.register") 220), (.str (.ofString "/claim/cut.py") 221), (.int 13 0), (.int 2 0), (.int 0 0), (.int 0 0), (.int 3 0), (.ref 36), (.bool true), (.int 181 0), (.ref 37), .none, (.ref 38), (.ref 39), (.ref 40), (.int 224 0), (.int 13 0), (.str (.ofString "/claim/cut.py") 225)]), #[]⟩
noncomputable def ob42 (_ : Params) : Obj := ⟨(.type "function"), none, (.func ⟨(.ofString "register"), (.ofString "ABCMeta.register"), (fnA [4, 0]), (fnB [4, 0]), (fnS [4, 0]), 3, [], .none, .none, .none, (.str (.ofString "abc") 205), none, (.ref 41), .none, 0⟩), #[]⟩
noncomputable def ob43 (_ : Params) : Obj := ⟨(.type "tuple"), none, (.seq #[] 0), #[]⟩
noncomputable def ob44 (P : Params) : Obj := ⟨(.type "dict"), none, (.dict #[dr P "__module__" 214 (.str (.ofString "abc") 205), dr P "__firstlineno__" 218 (.int 11 217), dr P "register" 226 (.ref 42), dr P "__static_attributes__" 227 (.ref 43), dr P "__doc__" 228 .none] 2), #[]⟩
noncomputable def ob45 (_ : Params) : Obj := ⟨(.type "type"), none, (.cls ⟨(.ofString "ABCMeta"), [(.type "type")], [(.ref 45), (.type "type"), (.type "object")], 44, (.ofString "ABCMeta"), true, [], [(.ref 78)], false, none, false⟩), #[(some (.ref 29)), none, (some (.str (.ofString "ABCMeta") 207)), (some (.str (.ofString "ABCMeta") 215)), (some (.builtin "type.__new__")), (some (.bool true))]⟩
noncomputable def ob46 (_ : Params) : Obj := ⟨(.type "super"), none, (.fields #[(.ref 45), (.ref 45), (.ref 45)]), #[]⟩
noncomputable def ob47 (_ : Params) : Obj := ⟨(.type "builtin_function_or_method"), none, (.fields #[(.builtin "object.__init_subclass__"), (.ref 45)]), #[]⟩
noncomputable def ob48 (_ : Params) : Obj := ⟨(.type "tuple"), none, (.seq #[(.ref 45)] 0), #[]⟩
noncomputable def ob49 (_ : Params) : Obj := ⟨(.type "builtin_function_or_method"), none, (.fields #[(.builtin "type.__prepare__"), (.type "type")]), #[]⟩
noncomputable def ob50 (P : Params) : Obj := ⟨(.type "dict"), none, (.dict #[dr P "__module__" 240 (.str (.ofString "collections.abc") 231), dr P "__qualname__" 242 (.str (.ofString "_ABCLike") 241), dr P "__firstlineno__" 244 (.int 16 243), dr P "__instancecheck__" 253 (.ref 61), dr P "__subclasscheck__" 261 (.ref 68), dr P "register" 269 (.ref 75), dr P "__static_attributes__" 270 (.ref 76)] 7), #[]⟩
noncomputable def ob51 (_ : Params) : Obj := ⟨(.type "tuple"), none, (.seq #[] 0), #[]⟩
noncomputable def ob52 (_ : Params) : Obj := ⟨.none, none, (.fields #[(.int 18 0), (.int 4 0), (.ref 60), (.int 24 0), (.int 4 0), (.ref 67), (.int 29 0), (.int 4 0), (.ref 74)]), #[]⟩
noncomputable def ob53 (_ : Params) : Obj := ⟨(.type "code"), none, (.fields #[(.str (.ofString "_ABCLike") 235), (.str (.ofString "_ABCLike") 236), (.str (.ofString "/claim/cut.py") 237), (.int 16 0), (.int 0 0), (.int 0 0), (.int 0 0), (.int 0 0), (.ref 51), (.bool false), (.int 181 0), (.ref 52), .none, .none, .none, .none, (.int 238 0), (.int 16 0), (.str (.ofString "/claim/cut.py") 239)]), #[]⟩
noncomputable def ob54 (_ : Params) : Obj := ⟨(.type "frame"), none, .plain, #[(some (.ref 53)), (some (.ref 3)), (some (.ref 50)), none, (some (.str (.ofString "collections.abc") 231)), none, (some (.ref 0))]⟩
noncomputable def ob55 (_ : Params) : Obj := ⟨(.type "tuple"), none, (.seq #[] 0), #[]⟩
noncomputable def ob56 (_ : Params) : Obj := ⟨.none, none, (.fields #[]), #[]⟩
noncomputable def ob57 (_ : Params) : Obj := ⟨(.type "tuple"), none, (.seq #[(.str (.ofString "cls") 248), (.str (.ofString "instance") 249), (.str (.ofString "C") 250)] 0), #[]⟩
noncomputable def ob58 (_ : Params) : Obj := ⟨(.type "tuple"), none, (.seq #[] 0), #[]⟩
noncomputable def ob59 (_ : Params) : Obj := ⟨.none, none, (.func ⟨(.ofString "__instancecheck__"), (.ofString "_ABCLike.__instancecheck__"), (fnA [6, 0]), (fnB [6, 0]), (fnS [6, 0]), 0, [], .none, .none, .none, .none, none, .none, .none, 0⟩), #[]⟩
noncomputable def ob60 (_ : Params) : Obj := ⟨(.type "code"), none, (.fields #[(.str (.ofString "__instancecheck__") 245), (.str (.ofString "_ABCLike.__instancecheck__") 246), (.str (.ofString "/claim/cut.py") 247), (.int 18 0), (.int 2 0), (.int 0 0), (.int 0 0), (.int 3 0), (.ref 55), (.bool true), (.int 181 0), (.ref 56), .none, (.ref 57), (.ref 58), (.ref 59), (.int 251 0), (.int 18 0), (.str (.ofString "/claim/cut.py") 252)]), #[]⟩
noncomputable def ob61 (_ : Params) : Obj := ⟨(.type "function"), none, (.func ⟨(.ofString "__instancecheck__"), (.ofString "_ABCLike.__instancecheck__"), (fnA [6, 0]), (fnB [6, 0]), (fnS [6, 0]), 3, [], .none, .none, .none, (.str (.ofString "collections.abc") 231), none, (.ref 60), .none, 0⟩), #[]⟩
noncomputable def ob62 (_ : Params) : Obj := ⟨(.type "tuple"), none, (.seq #[] 0), #[]⟩
noncomputable def ob63 (_ : Params) : Obj := ⟨.none, none, (.fields #[]), #[]⟩
noncomputable def ob64 (_ : Params) : Obj := ⟨(.type "tuple"), none, (.seq #[(.str (.ofString "cls") 257), (.str (.ofString "C") 258)] 0), #[]⟩
noncomputable def ob65 (_ : Params) : Obj := ⟨(.type "tuple"), none, (.seq #[] 0), #[]⟩
noncomputable def ob66 (_ : Params) : Obj := ⟨.none, none, (.func ⟨(.ofString "__subclasscheck__"), (.ofString "_ABCLike.__subclasscheck__"), (fnA [6, 1]), (fnB [6, 1]), (fnS [6, 1]), 0, [], .none, .none, .none, .none, none, .none, .none, 0⟩), #[]⟩
noncomputable def ob67 (_ : Params) : Obj := ⟨(.type "code"), none, (.fields #[(.str (.ofString "__subclasscheck__") 254), (.str (.ofString "_ABCLike.__subclasscheck__") 255), (.str (.ofString "/claim/cut.py") 256), (.int 24 0), (.int 2 0), (.int 0 0), (.int 0 0), (.int 3 0), (.ref 62), (.bool true), (.int 181 0), (.ref 63), .none, (.ref 64), (.ref 65), (.ref 66), (.int 259 0), (.int 24 0), (.str (.ofString "/claim/cut.py") 260)]), #[]⟩
noncomputable def ob68 (_ : Params) : Obj := ⟨(.type "function"), none, (.func ⟨(.ofString "__subclasscheck__"), (.ofString "_ABCLike.__subclasscheck__"), (fnA [6, 1]), (fnB [6, 1]), (fnS [6, 1]), 3, [], .none, .none, .none, (.str (.ofString "collections.abc") 231), none, (.ref 67), .none, 0⟩), #[]⟩
noncomputable def ob69 (_ : Params) : Obj := ⟨(.type "tuple"), none, (.seq #[] 0), #[]⟩
noncomputable def ob70 (_ : Params) : Obj := ⟨.none, none, (.fields #[]), #[]⟩
noncomputable def ob71 (_ : Params) : Obj := ⟨(.type "tuple"), none, (.seq #[(.str (.ofString "cls") 265), (.str (.ofString "subclass") 266)] 0), #[]⟩
noncomputable def ob72 (_ : Params) : Obj := ⟨(.type "tuple"), none, (.seq #[] 0), #[]⟩
noncomputable def ob73 (_ : Params) : Obj := ⟨.none, none, (.func ⟨(.ofString "register"), (.ofString "_ABCLike.register"), (fnA [6, 2]), (fnB [6, 2]), (fnS [6, 2]), 0, [], .none, .none, .none, .none, none, .none, .none, 0⟩), #[]⟩
noncomputable def ob74 (_ : Params) : Obj := ⟨(.type "code"), none, (.fields #[(.str (.ofString "register") 262), (.str (.ofString "_ABCLike.register") 263), (.str (.ofString "/claim/cut.py") 264), (.int 29 0), (.int 2 0), (.int 0 0), (.int 0 0), (.int 3 0), (.ref 69), (.bool true), (.int 181 0), (.ref 70), .none, (.ref 71), (.ref 72), (.ref 73), (.int 267 0), (.int 29 0), (.str (.ofString "/claim/cut.py") 268)]), #[]⟩
noncomputable def ob75 (_ : Params) : Obj := ⟨(.type "function"), none, (.func ⟨(.ofString "register"), (.ofString "_ABCLike.register"), (fnA [6, 2]), (fnB [6, 2]), (fnS [6, 2]), 3, [], .none, .none, .none, (.str (.ofString "collections.abc") 231), none, (.ref 74), .none, 0⟩), #[]⟩
noncomputable def ob76 (_ : Params) : Obj := ⟨(.type "tuple"), none, (.seq #[] 0), #[]⟩
noncomputable def ob77 (P : Params) : Obj := ⟨(.type "dict"), none, (.dict #[dr P "__module__" 240 (.str (.ofString "collections.abc") 231), dr P "__firstlineno__" 244 (.int 16 243), dr P "__instancecheck__" 253 (.ref 61), dr P "__subclasscheck__" 261 (.ref 68), dr P "register" 269 (.ref 75), dr P "__static_attributes__" 270 (.ref 76), dr P "__doc__" 271 .none] 2), #[]⟩
noncomputable def ob78 (_ : Params) : Obj := ⟨(.type "type"), none, (.cls ⟨(.ofString "_ABCLike"), [(.ref 45)], [(.ref 78), (.ref 45), (.type "type"), (.type "object")], 77, (.ofString "_ABCLike"), true, [], [], false, none, false⟩), #[(some (.ref 48)), none, (some (.str (.ofString "_ABCLike") 233)), (some (.str (.ofString "_ABCLike") 241)), (some (.builtin "type.__new__")), (some (.bool true))]⟩
noncomputable def ob79 (_ : Params) : Obj := ⟨(.type "super"), none, (.fields #[(.ref 78), (.ref 78), (.ref 78)]), #[]⟩
noncomputable def ob80 (_ : Params) : Obj := ⟨(.type "builtin_function_or_method"), none, (.fields #[(.builtin "object.__init_subclass__"), (.ref 78)]), #[]⟩
noncomputable def ob81 (_ : Params) : Obj := ⟨(.type "tuple"), none, (.seq #[] 0), #[]⟩
noncomputable def ob82 (_ : Params) : Obj := ⟨.none, none, (.fields #[]), #[]⟩
noncomputable def ob83 (_ : Params) : Obj := ⟨(.type "tuple"), none, (.seq #[(.str (.ofString "C") 277)] 0), #[]⟩
noncomputable def ob84 (_ : Params) : Obj := ⟨(.type "tuple"), none, (.seq #[] 0), #[]⟩
noncomputable def ob85 (_ : Params) : Obj := ⟨.none, none, (.func ⟨(.ofString "_abc_plain_meta"), (.ofString "_abc_plain_meta"), (fnA [7]), (fnB [7]), (fnS [7]), 0, [], .none, .none, .none, .none, none, .none, .none, 0⟩), #[]⟩
noncomputable def ob86 (_ : Params) : Obj := ⟨(.type "code"), none, (.fields #[(.str (.ofString "_abc_plain_meta") 274), (.str (.ofString "_abc_plain_meta") 275), (.str (.ofString "/claim/cut.py") 276), (.int 31 0), (.int 1 0), (.int 0 0), (.int 0 0), (.int 3 0), (.ref 81), (.bool true), (.int 181 0), (.ref 82), .none, (.ref 83), (.ref 84), (.ref 85), (.int 278 0), (.int 31 0), (.str (.ofString "/claim/cut.py") 279)]), #[]⟩
noncomputable def ob87 (_ : Params) : Obj := ⟨(.type "function"), none, (.func ⟨(.ofString "_abc_plain_meta"), (.ofString "_abc_plain_meta"), (fnA [7]), (fnB [7]), (fnS [7]), 3, [], .none, .none, .none, (.str (.ofString "collections.abc") 231), none, (.ref 86), .none, 0⟩), #[]⟩
noncomputable def ob88 (_ : Params) : Obj := ⟨(.type "tuple"), none, (.seq #[] 0), #[]⟩
noncomputable def ob89 (_ : Params) : Obj := ⟨.none, none, (.fields #[]), #[]⟩
noncomputable def ob90 (_ : Params) : Obj := ⟨(.type "tuple"), none, (.seq #[(.str (.ofString "path") 286), (.str (.ofString "kind") 287), (.str (.ofString "hook") 288), (.str (.ofString "given") 289)] 0), #[]⟩
noncomputable def ob91 (_ : Params) : Obj := ⟨(.type "tuple"), none, (.seq #[] 0), #[]⟩
noncomputable def ob92 (_ : Params) : Obj := ⟨.none, none, (.func ⟨(.ofString "fspath"), (.ofString "fspath"), (fnA [9]), (fnB [9]), (fnS [9]), 0, [], .none, .none, .none, .none, none, .none, .none, 0⟩), #[]⟩
noncomputable def ob93 (_ : Params) : Obj := ⟨(.type "code"), none, (.fields #[(.str (.ofString "fspath") 283), (.str (.ofString "fspath") 284), (.str (.ofString "/claim/cut.py") 285), (.int 35 0), (.int 1 0), (.int 0 0), (.int 0 0), (.int 3 0), (.ref 88), (.bool true), (.int 181 0), (.ref 89), .none, (.ref 90), (.ref 91), (.ref 92), (.int 290 0), (.int 35 0), (.str (.ofString "/claim/cut.py") 291)]), #[]⟩
noncomputable def ob94 : Params → Obj := by
  refine' (?f : ∀ (ps : Arguments) (b : List Stmt) (sc : Scope), fnAt [9] = some (ps, b, sc) → Params → Obj) _ _ _ ?h
  case h => exact rfl
  case f => exact fun ps b sc _ _ => ⟨(.type "function"), none, (.func ⟨(.ofString "fspath"), (.ofString "fspath"), ps, (.stmts b), sc, 3, [], .none, .none, .none, (.str (.ofString "os") 281), none, (.ref 93), .none, 0⟩), #[]⟩
noncomputable def ob95 (_ : Params) : Obj := ⟨(.type "tuple"), none, (.seq #[] 0), #[]⟩
noncomputable def ob96 (_ : Params) : Obj := ⟨.none, none, (.fields #[]), #[]⟩
noncomputable def ob97 (_ : Params) : Obj := ⟨(.type "tuple"), none, (.seq #[(.str (.ofString "funcname") 298), (.str (.ofString "args") 299), (.str (.ofString "hasstr") 300), (.str (.ofString "hasbytes") 301), (.str (.ofString "s") 302)] 0), #[]⟩
noncomputable def ob98 (_ : Params) : Obj := ⟨(.type "tuple"), none, (.seq #[] 0), #[]⟩
noncomputable def ob99 (_ : Params) : Obj := ⟨.none, none, (.func ⟨(.ofString "_check_arg_types"), (.ofString "_check_arg_types"), (fnA [11]), (fnB [11]), (fnS [11]), 0, [], .none, .none, .none, .none, none, .none, .none, 0⟩), #[]⟩
noncomputable def ob100 (_ : Params) : Obj := ⟨(.type "code"), none, (.fields #[(.str (.ofString "_check_arg_types") 295), (.str (.ofString "_check_arg_types") 296), (.str (.ofString "/claim/cut.py") 297), (.int 52 0), (.int 1 0), (.int 0 0), (.int 0 0), (.int 7 0), (.ref 95), (.bool true), (.int 181 0), (.ref 96), .none, (.ref 97), (.ref 98), (.ref 99), (.int 303 0), (.int 52 0), (.str (.ofString "/claim/cut.py") 304)]), #[]⟩
noncomputable def ob101 (_ : Params) : Obj := ⟨(.type "function"), none, (.func ⟨(.ofString "_check_arg_types"), (.ofString "_check_arg_types"), (fnA [11]), (fnB [11]), (fnS [11]), 3, [], .none, .none, .none, (.str (.ofString "cpy313.genericpath") 293), none, (.ref 100), .none, 0⟩), #[]⟩
noncomputable def ob102 (_ : Params) : Obj := ⟨(.type "tuple"), none, (.seq #[] 0), #[]⟩
noncomputable def ob103 (_ : Params) : Obj := ⟨.none, none, (.fields #[]), #[]⟩
noncomputable def ob104 (_ : Params) : Obj := ⟨(.type "tuple"), none, (.seq #[(.str (.ofString "path") 311)] 0), #[]⟩
noncomputable def ob105 (_ : Params) : Obj := ⟨(.type "tuple"), none, (.seq #[] 0), #[]⟩
noncomputable def ob106 (_ : Params) : Obj := ⟨.none, none, (.func ⟨(.ofString "_get_sep"), (.ofString "_get_sep"), (fnA [13]), (fnB [13]), (fnS [13]), 0, [], .none, .none, .none, .none, none, .none, .none, 0⟩), #[]⟩
noncomputable def ob107 (_ : Params) : Obj := ⟨(.type "code"), none, (.fields #[(.str (.ofString "_get_sep") 308), (.str (.ofString "_get_sep") 309), (.str (.ofString "/claim/cut.py") 310), (.int 64 0), (.int 1 0), (.int 0 0), (.int 0 0), (.int 3 0), (.ref 102), (.bool true), (.int 181 0), (.ref 103), .none, (.ref 104), (.ref 105), (.ref 106), (.int 312 0), (.int 64 0), (.str (.ofString "/claim/cut.py") 313)]), #[]⟩
noncomputable def ob108 : Params → Obj := by
  refine' (?f : ∀ (ps : Arguments) (b : List Stmt) (sc : Scope), fnAt [13] = some (ps, b, sc) → Params → Obj) _ _ _ ?h
  case h => exact rfl
  case f => exact fun ps b sc _ _ => ⟨(.type "function"), none, (.func ⟨(.ofString "_get_sep"), (.ofString "_get_sep"), ps, (.stmts b), sc, 3, [], .none, .none, .none, (.str (.ofString "cpy313.posixpath") 306), none, (.ref 107), .none, 0⟩), #[]⟩
noncomputable def ob109 (_ : Params) : Obj := ⟨(.type "tuple"), none, (.seq #[] 0), #[]⟩
noncomputable def ob110 (_ : Params) : Obj := ⟨.none, none, (.fields #[]), #[]⟩
noncomputable def ob111 (_ : Params) : Obj := ⟨(.type "tuple"), none, (.seq #[(.str (.ofString "a") 318), (.str (.ofString "p") 319), (.str (.ofString "sep") 320), (.str (.ofString "path") 321), (.str (.ofString "b") 322)] 0), #[]⟩
noncomputable def ob112 (_ : Params) : Obj := ⟨(.type "tuple"), none, (.seq #[] 0), #[]⟩
noncomputable def ob113 (_ : Params) : Obj := ⟨.none, none, (.func ⟨(.ofString "join"), (.ofString "join"), (fnA [14]), (fnB [14]), (fnS [14]), 0, [], .none, .none, .none, .none, none, .none, .none, 0⟩), #[]⟩
noncomputable def ob114 (_ : Params) : Obj := ⟨(.type "code"), none, (.fields #[(.str (.ofString "join") 315), (.str (.ofString "join") 316), (.str (.ofString "/claim/cut.py") 317), (.int 69 0), (.int 1 0), (.int 0 0), (.int 0 0), (.int 7 0), (.ref 109), (.bool true), (.int 181 0), (.ref 110), .none, (.ref 111), (.ref 112), (.ref 113), (.int 323 0), (.int 69 0), (.str (.ofString "/claim/cut.py") 324)]), #[]⟩
noncomputable def ob115 : Params → Obj := by
  refine' (?f : ∀ (ps : Arguments) (b : List Stmt) (sc : Scope), fnAt [14] = some (ps, b, sc) → Params → Obj) _ _ _ ?h
  case h => exact rfl
  case f => exact fun ps b sc _ _ => ⟨(.type "function"), none, (.func ⟨(.ofString "join"), (.ofString "join"), ps, (.stmts b), sc, 3, [], .none, .none, .none, (.str (.ofString "cpy313.posixpath") 306), none, (.ref 114), .none, 0⟩), #[]⟩
noncomputable def ob116 (_ : Params) : Obj := ⟨(.type "tuple"), none, (.seq #[] 0), #[]⟩
noncomputable def ob117 (_ : Params) : Obj := ⟨.none, none, (.fields #[]), #[]⟩
noncomputable def ob118 (_ : Params) : Obj := ⟨(.type "tuple"), none, (.seq #[(.str (.ofString "p") 329), (.str (.ofString "sep") 330), (.str (.ofString "empty") 331)] 0), #[]⟩
noncomputable def ob119 (_ : Params) : Obj := ⟨(.type "tuple"), none, (.seq #[] 0), #[]⟩
noncomputable def ob120 (_ : Params) : Obj := ⟨.none, none, (.func ⟨(.ofString "splitroot"), (.ofString "splitroot"), (fnA [15]), (fnB [15]), (fnS [15]), 0, [], .none, .none, .none, .none, none, .none, .none, 0⟩), #[]⟩
noncomputable def ob121 (_ : Params) : Obj := ⟨(.type "code"), none, (.fields #[(.str (.ofString "splitroot") 326), (.str (.ofString "splitroot") 327), (.str (.ofString "/claim/cut.py") 328), (.int 86 0), (.int 1 0), (.int 0 0), (.int 0 0), (.int 3 0), (.ref 116), (.bool true), (.int 181 0), (.ref 117), .none, (.ref 118), (.ref 119), (.ref 120), (.int 332 0), (.int 86 0), (.str (.ofString "/claim/cut.py") 333)]), #[]⟩
noncomputable def ob122 : Params → Obj := by
  refine' (?f : ∀ (ps : Arguments) (b : List Stmt) (sc : Scope), fnAt [15] = some (ps, b, sc) → Params → Obj) _ _ _ ?h
  case h => exact rfl
  case f => exact fun ps b sc _ _ => ⟨(.type "function"), none, (.func ⟨(.ofString "splitroot"), (.ofString "splitroot"), ps, (.stmts b), sc, 3, [], .none, .none, .none, (.str (.ofString "cpy313.posixpath") 306), none, (.ref 121), .none, 0⟩), #[]⟩
noncomputable def ob123 (_ : Params) : Obj := ⟨(.type "tuple"), none, (.seq #[] 0), #[]⟩
noncomputable def ob124 (_ : Params) : Obj := ⟨.none, none, (.fields #[]), #[]⟩
noncomputable def ob125 (_ : Params) : Obj := ⟨(.type "tuple"), none, (.seq #[(.str (.ofString "p") 338), (.str (.ofString "sep") 339), (.str (.ofString "i") 340), (.str (.ofString "head") 341)] 0), #[]⟩
noncomputable def ob126 (_ : Params) : Obj := ⟨(.type "tuple"), none, (.seq #[] 0), #[]⟩
noncomputable def ob127 (_ : Params) : Obj := ⟨.none, none, (.func ⟨(.ofString "dirname"), (.ofString "dirname"), (fnA [16]), (fnB [16]), (fnS [16]), 0, [], .none, .none, .none, .none, none, .none, .none, 0⟩), #[]⟩
noncomputable def ob128 (_ : Params) : Obj := ⟨(.type "code"), none, (.fields #[(.str (.ofString "dirname") 335), (.str (.ofString "dirname") 336), (.str (.ofString "/claim/cut.py") 337), (.int 100 0), (.int 1 0), (.int 0 0), (.int 0 0), (.int 3 0), (.ref 123), (.bool true), (.int 181 0), (.ref 124), .none, (.ref 125), (.ref 126), (.ref 127), (.int 342 0), (.int 100 0), (.str (.ofString "/claim/cut.py") 343)]), #[]⟩
noncomputable def ob129 : Params → Obj := by
  refine' (?f : ∀ (ps : Arguments) (b : List Stmt) (sc : Scope), fnAt [16] = some (ps, b, sc) → Params → Obj) _ _ _ ?h
  case h => exact rfl
  case f => exact fun ps b sc _ _ => ⟨(.type "function"), none, (.func ⟨(.ofString "dirname"), (.ofString "dirname"), ps, (.stmts b), sc, 3, [], .none, .none, .none, (.str (.ofString "cpy313.posixpath") 306), none, (.ref 128), .none, 0⟩), #[]⟩
noncomputable def ob130 (_ : Params) : Obj := ⟨(.type "tuple"), none, (.seq #[] 0), #[]⟩
noncomputable def ob131 (_ : Params) : Obj := ⟨.none, none, (.fields #[]), #[]⟩
noncomputable def ob132 (_ : Params) : Obj := ⟨(.type "tuple"), none, (.seq #[(.str (.ofString "path") 348), (.str (.ofString "sep") 349), (.str (.ofString "dot") 350), (.str (.ofString "dotdot") 351), (.str (.ofString "_") 352), (.str (.ofString "initial_slashes") 353), (.str (.ofString "comps") 354), (.str (.ofString "new_comps") 355), (.str (.ofString "comp") 356)] 0), #[]⟩
noncomputable def ob133 (_ : Params) : Obj := ⟨(.type "tuple"), none, (.seq #[] 0), #[]⟩
noncomputable def ob134 (_ : Params) : Obj := ⟨.none, none, (.func ⟨(.ofString "normpath"), (.ofString "normpath"), (fnA [17]), (fnB [17]), (fnS [17]), 0, [], .none, .none, .none, .none, none, .none, .none, 0⟩), #[]⟩
noncomputable def ob135 (_ : Params) : Obj := ⟨(.type "code"), none, (.fields #[(.str (.ofString "normpath") 345), (.str (.ofString "normpath") 346), (.str (.ofString "/claim/cut.py") 347), (.int 108 0), (.int 1 0), (.int 0 0), (.int 0 0), (.int 3 0), (.ref 130), (.bool true), (.int 181 0), (.ref 131), .none, (.ref 132), (.ref 133), (.ref 134), (.int 357 0), (.int 108 0), (.str (.ofString "/claim/cut.py") 358)]), #[]⟩
noncomputable def ob136 : Params → Obj := by
  refine' (?f : ∀ (ps : Arguments) (b : List Stmt) (sc : Scope), fnAt [17] = some (ps, b, sc) → Params → Obj) _ _ _ ?h
  case h => exact rfl
  case f => exact fun ps b sc _ _ => ⟨(.type "function"), none, (.func ⟨(.ofString "normpath"), (.ofString "normpath"), ps, (.stmts b), sc, 3, [], .none, .none, .none, (.str (.ofString "cpy313.posixpath") 306), none, (.ref 135), .none, 0⟩), #[]⟩
noncomputable def ob137 (_ : Params) : Obj := ⟨(.type "tuple"), none, (.seq #[] 0), #[]⟩
noncomputable def ob138 (_ : Params) : Obj := ⟨(.type "builtin_function_or_method"), none, (.fields #[(.builtin "type.__prepare__"), (.type "type")]), #[]⟩
noncomputable def ob139 (P : Params) : Obj := ⟨(.type "dict"), none, (.dict #[dr P "__module__" 375 (.str (.ofString "cpy313.graphlib") 360), dr P "__qualname__" 377 (.str (.ofString "_NodeInfo") 376), dr P "__firstlineno__" 379 (.int 136 378), dr P "__slots__" 383 (.ref 144), dr P "__init__" 391 (.ref 151), dr P "__static_attributes__" 395 (.ref 152)] 6), #[]⟩
noncomputable def ob140 (_ : Params) : Obj := ⟨(.type "tuple"), none, (.seq #[] 0), #[]⟩
noncomputable def ob141 (_ : Params) : Obj := ⟨.none, none, (.fields #[(.int 139 0), (.int 4 0), (.ref 150)]), #[]⟩
noncomputable def ob142 (_ : Params) : Obj := ⟨(.type "code"), none, (.fields #[(.str (.ofString "_NodeInfo") 370), (.str (.ofString "_NodeInfo") 371), (.str (.ofString "/claim/cut.py") 372), (.int 136 0), (.int 0 0), (.int 0 0), (.int 0 0), (.int 0 0), (.ref 140), (.bool false), (.int 181 0), (.ref 141), .none, .none, .none, .none, (.int 373 0), (.int 136 0), (.str (.ofString "/claim/cut.py") 374)]), #[]⟩
noncomputable def ob143 (_ : Params) : Obj := ⟨(.type "frame"), none, .plain, #[(some (.ref 142)), (some (.ref 3)), (some (.ref 139)), none, (some (.str (.ofString "cpy313.graphlib") 360)), none, (some (.ref 0))]⟩
noncomputable def ob144 (_ : Params) : Obj := ⟨(.type "tuple"), none, (.seq #[(.str (.ofString "node") 380), (.str (.ofString "npredecessors") 381), (.str (.ofString "successors") 382)] 0), #[]⟩
noncomputable def ob145 (_ : Params) : Obj := ⟨(.type "tuple"), none, (.seq #[] 0), #[]⟩
noncomputable def ob146 (_ : Params) : Obj := ⟨.none, none, (.fields #[]), #[]⟩
noncomputable def ob147 (_ : Params) : Obj := ⟨(.type "tuple"), none, (.seq #[(.str (.ofString "self") 387), (.str (.ofString "node") 388)] 0), #[]⟩
noncomputable def ob148 (_ : Params) : Obj := ⟨(.type "tuple"), none, (.seq #[] 0), #[]⟩
noncomputable def ob149 (_ : Params) : Obj := ⟨.none, none, (.func ⟨(.ofString "__init__"), (.ofString "_NodeInfo.__init__"), (fnA [21, 1]), (fnB [21, 1]), (fnS [21, 1]), 0, [], .none, .none, .none, .none, none, .none, .none, 0⟩), #[]⟩
noncomputable def ob150 (_ : Params) : Obj := ⟨(.type "code"), none, (.fields #[(.str (.ofString "__init__") 384), (.str (.ofString "_NodeInfo.__init__") 385), (.str (.ofString "/claim/cut.py") 386), (.int 139 0), (.int 2 0), (.int 0 0), (.int 0 0), (.int 3 0), (.ref 145), (.bool true), (.int 181 0), (.ref 146), .none, (.ref 147), (.ref 148), (.ref 149), (.int 389 0), (.int 139 0), (.str (.ofString "/claim/cut.py") 390)]), #[]⟩
noncomputable def ob151 : Params → Obj := by
  refine' (?f : ∀ (ps : Arguments) (b : List Stmt) (sc : Scope), fnAt [21, 1] = some (ps, b, sc) → Params → Obj) _ _ _ ?h
  case h => exact rfl
  case f => exact fun ps b sc _ _ => ⟨(.type "function"), none, (.func ⟨(.ofString "__init__"), (.ofString "_NodeInfo.__init__"), ps, (.stmts b), sc, 3, [], .none, .none, .none, (.str (.ofString "cpy313.graphlib") 360), none, (.ref 150), .none, 0⟩), #[]⟩
noncomputable def ob152 (_ : Params) : Obj := ⟨(.type "tuple"), none, (.seq #[(.str (.ofString "node") 392), (.str (.ofString "npredecessors") 393), (.str (.ofString "successors") 394)] 0), #[]⟩
noncomputable def ob153 (_ : Params) : Obj := ⟨(.type "list"), none, (.seq #[(.str (.ofString "node") 380), (.str (.ofString "npredecessors") 381), (.str (.ofString "successors") 382)] 1), #[]⟩
noncomputable def ob154 (P : Params) : Obj := ⟨(.type "dict"), none, (.dict #[dr P "__module__" 375 (.str (.ofString "cpy313.graphlib") 360), dr P "__firstlineno__" 379 (.int 136 378), dr P "__slots__" 383 (.ref 144), dr P "__init__" 391 (.ref 151), dr P "__static_attributes__" 395 (.ref 152), dr P "node" 397 (.ref 156), dr P "npredecessors" 399 (.ref 157), dr P "successors" 401 (.ref 158), dr P "__doc__" 402 .none] 5), #[]⟩
noncomputable def ob155 (_ : Params) : Obj := ⟨(.type "type"), none, (.cls ⟨(.ofString "_NodeInfo"), [(.type "object")], [(.ref 155), (.type "object")], 154, (.ofString "_NodeInfo"), false, [(.ofString "node"), (.ofString "npredecessors"), (.ofString "successors")], [], false, none, false⟩), #[none, none, (some (.str (.ofString "_NodeInfo") 368)), (some (.str (.ofString "_NodeInfo") 376)), (some (.builtin "object.__new__")), (some (.bool false))]⟩
noncomputable def ob156 (_ : Params) : Obj := ⟨(.type "member_descriptor"), none, (.fields #[(.str (.ofString "node") 396), (.ref 155), (.builtin "proto.slot"), (.builtin "proto.slot#set"), (.int 2 0)]), #[]⟩
noncomputable def ob157 (_ : Params) : Obj := ⟨(.type "member_descriptor"), none, (.fields #[(.str (.ofString "npredecessors") 398), (.ref 155), (.builtin "proto.slot"), (.builtin "proto.slot#set"), (.int 1 0)]), #[]⟩
noncomputable def ob158 (_ : Params) : Obj := ⟨(.type "member_descriptor"), none, (.fields #[(.str (.ofString "successors") 400), (.ref 155), (.builtin "proto.slot"), (.builtin "proto.slot#set"), (.int 0 0)]), #[]⟩
noncomputable def ob159 (_ : Params) : Obj := ⟨(.type "super"), none, (.fields #[(.ref 155), (.ref 155), (.ref 155)]), #[]⟩
noncomputable def ob160 (_ : Params) : Obj := ⟨(.type "builtin_function_or_method"), none, (.fields #[(.builtin "object.__init_subclass__"), (.ref 155)]), #[]⟩
noncomputable def ob161 (_ : Params) : Obj := ⟨(.type "tuple"), none, (.seq #[(.type "ValueError")] 0), #[]⟩
noncomputable def ob162 (_ : Params) : Obj := ⟨(.type "builtin_function_or_method"), none, (.fields #[(.builtin "type.__prepare__"), (.type "type")]), #[]⟩
noncomputable def ob163 (P : Params) : Obj := ⟨(.type "dict"), none, (.dict #[dr P "__module__" 412 (.str (.ofString "cpy313.graphlib") 360), dr P "__qualname__" 414 (.str (.ofString "CycleError") 413), dr P "__firstlineno__" 416 (.int 143 415), dr P "__static_attributes__" 417 (.ref 168)] 4), #[]⟩
noncomputable def ob164 (_ : Params) : Obj := ⟨(.type "tuple"), none, (.seq #[] 0), #[]⟩
noncomputable def ob165 (_ : Params) : Obj := ⟨.none, none, (.fields #[]), #[]⟩
noncomputable def ob166 (_ : Params) : Obj := ⟨(.type "code"), none, (.fields #[(.str (.ofString "CycleError") 407), (.str (.ofString "CycleError") 408), (.str (.ofString "/claim/cut.py") 409), (.int 143 0), (.int 0 0), (.int 0 0), (.int 0 0), (.int 0 0), (.ref 164), (.bool false), (.int 181 0), (.ref 165), .none, .none, .none, .none, (.int 410 0), (.int 143 0), (.str (.ofString "/claim/cut.py") 411)]), #[]⟩
noncomputable def ob167 (_ : Params) : Obj := ⟨(.type "frame"), none, .plain, #[(some (.ref 166)), (some (.ref 3)), (some (.ref 163)), none, (some (.str (.ofString "cpy313.graphlib") 360)), none, (some (.ref 0))]⟩
noncomputable def ob168 (_ : Params) : Obj := ⟨(.type "tuple"), none, (.seq #[] 0), #[]⟩
noncomputable def ob169 (P : Params) : Obj := ⟨(.type "dict"), none, (.dict #[dr P "__module__" 412 (.str (.ofString "cpy313.graphlib") 360), dr P "__firstlineno__" 416 (.int 143 415), dr P "__static_attributes__" 417 (.ref 168), dr P "__weakref__" 419 (.ref 171), dr P "__doc__" 420 .none] 3), #[]⟩
noncomputable def ob170 (_ : Params) : Obj := ⟨(.type "type"), none, (.cls ⟨(.ofString "CycleError"), [(.type "ValueError")], [(.ref 170), (.type "ValueError"), (.type "Exception"), (.type "BaseException"), (.type "object")], 169, (.ofString "CycleError"), true, [], [], false, none, false⟩), #[(some (.ref 161)), none, (some (.str (.ofString "CycleError") 405)), (some (.str (.ofString "CycleError") 413)), (some (.builtin "ValueError.__new__")), (some (.bool true))]⟩
noncomputable def ob171 (_ : Params) : Obj := ⟨(.type "getset_descriptor"), none, (.fields #[(.str (.ofString "__weakref__") 418), (.ref 170), (.builtin "ExceptionGroup.__weakref__"), .none]), #[]⟩
noncomputable def ob172 (_ : Params) : Obj := ⟨(.type "super"), none, (.fields #[(.ref 170), (.ref 170), (.ref 170)]), #[]⟩
noncomputable def ob173 (_ : Params) : Obj := ⟨(.type "builtin_function_or_method"), none, (.fields #[(.builtin "object.__init_subclass__"), (.ref 170)]), #[]⟩
noncomputable def ob174 (_ : Params) : Obj := ⟨(.type "tuple"), none, (.seq #[] 0), #[]⟩
noncomputable def ob175 (_ : Params) : Obj := ⟨(.type "builtin_function_or_method"), none, (.fields #[(.builtin "type.__prepare__"), (.type "type")]), #[]⟩
noncomputable def ob176 (P : Params) : Obj := ⟨(.type "dict"), none, (.dict #[dr P "__module__" 430 (.str (.ofString "cpy313.graphlib") 360), dr P "__qualname__" 432 (.str (.ofString "TopologicalSorter") 431), dr P "__firstlineno__" 434 (.int 145 433), dr P "__init__" 444 (.ref 188), dr P "_get_nodeinfo" 453 (.ref 195), dr P "add" 465 (.ref 202), dr P "prepare" 471 (.ref 207), dr P "get_ready" 481 (.ref 214), dr P "is_active" 488 (.ref 221), dr P "__bool__" 495 (.ref 228), dr P "done" 509 (.ref 235), dr P "_find_cycle" 522 (.ref 242), dr P "static_order" 529 (.ref 249), dr P "__static_attributes__" 534 (.ref 250)] 14), #[]⟩
noncomputable def ob177 (_ : Params) : Obj := ⟨(.type "tuple"), none, (.seq #[] 0), #[]⟩
noncomputable def ob178 (_ : Params) : Obj := ⟨.none, none, (.fields #[(.int 147 0), (.int 4 0), (.ref 187), (.int 156 0), (.int 4 0), (.ref 194), (.int 161 0), (.int 4 0), (.ref 201), (.int 170 0), (.int 4 0), (.ref 206), (.int 178 0), (.int 4 0), (.ref 213), (.int 189 0), (.int 4 0), (.ref 220), (.int 194 0), (.int 4 0), (.ref 227), (.int 197 0), (.int 4 0), (.ref 234), (.int 220 0), (.int 4 0), (.ref 241), (.int 249 0), (.int 4 0), (.ref 248)]), #[]⟩
noncomputable def ob179 (_ : Params) : Obj := ⟨(.type "code"), none, (.fields #[(.str (.ofString "TopologicalSorter") 425), (.str (.ofString "TopologicalSorter") 426), (.str (.ofString "/claim/cut.py") 427), (.int 145 0), (.int 0 0), (.int 0 0), (.int 0 0), (.int 0 0), (.ref 177), (.bool false), (.int 181 0), (.ref 178), .none, .none, .none, .none, (.int 428 0), (.int 145 0), (.str (.ofString "/claim/cut.py") 429)]), #[]⟩
noncomputable def ob180 (_ : Params) : Obj := ⟨(.type "frame"), none, .plain, #[(some (.ref 179)), (some (.ref 3)), (some (.ref 176)), none, (some (.str (.ofString "cpy313.graphlib") 360)), none, (some (.ref 0))]⟩
noncomputable def ob181 (_ : Params) : Obj := ⟨(.type "tuple"), none, (.seq #[.none] 0), #[]⟩
noncomputable def ob182 (_ : Params) : Obj := ⟨(.type "tuple"), none, (.seq #[] 0), #[]⟩
noncomputable def ob183 (_ : Params) : Obj := ⟨.none, none, (.fields #[]), #[]⟩
noncomputable def ob184 (_ : Params) : Obj := ⟨(.type "tuple"), none, (.seq #[(.str (.ofString "self") 438), (.str (.ofString "graph") 439), (.str (.ofString "node") 440), (.str (.ofString "predecessors") 441)] 0), #[]⟩
noncomputable def ob185 (_ : Params) : Obj := ⟨(.type "tuple"), none, (.seq #[] 0), #[]⟩
noncomputable def ob186 (_ : Params) : Obj := ⟨.none, none, (.func ⟨(.ofString "__init__"), (.ofString "TopologicalSorter.__init__"), (fnA [23, 0]), (fnB [23, 0]), (fnS [23, 0]), 0, [], .none, .none, .none, .none, none, .none, .none, 0⟩), #[]⟩
noncomputable def ob187 (_ : Params) : Obj := ⟨(.type "code"), none, (.fields #[(.str (.ofString "__init__") 435), (.str (.ofString "TopologicalSorter.__init__") 436), (.str (.ofString "/claim/cut.py") 437), (.int 147 0), (.int 2 0), (.int 0 0), (.int 0 0), (.int 3 0), (.ref 182), (.bool true), (.int 181 0), (.ref 183), .none, (.ref 184), (.ref 185), (.ref 186), (.int 442 0), (.int 147 0), (.str (.ofString "/claim/cut.py") 443)]), #[]⟩
noncomputable def ob188 : Params → Obj := by
  refine' (?f : ∀ (ps : Arguments) (b : List Stmt) (sc : Scope), fnAt [23, 0] = some (ps, b, sc) → Params → Obj) _ _ _ ?h
  case h => exact rfl
  case f => exact fun ps b sc _ _ => ⟨(.type "function"), none, (.func ⟨(.ofString "__init__"), (.ofString "TopologicalSorter.__init__"), ps, (.stmts b), sc, 3, [], (.ref 181), .none, .none, (.str (.ofString "cpy313.graphlib") 360), none, (.ref 187), .none, 0⟩), #[]⟩
noncomputable def ob189 (_ : Params) : Obj := ⟨(.type "tuple"), none, (.seq #[] 0), #[]⟩
noncomputable def ob190 (_ : Params) : Obj := ⟨.none, none, (.fields #[]), #[]⟩
noncomputable def ob191 (_ : Params) : Obj := ⟨(.type "tuple"), none, (.seq #[(.str (.ofString "self") 448), (.str (.ofString "node") 449), (.str (.ofString "result") 450)] 0), #[]⟩
noncomputable def ob192 (_ : Params) : Obj := ⟨(.type "tuple"), none, (.seq #[] 0), #[]⟩
noncomputable def ob193 (_ : Params) : Obj := ⟨.none, none, (.func ⟨(.ofString "_get_nodeinfo"), (.ofString "TopologicalSorter._get_nodeinfo"), (fnA [23, 1]), (fnB [23, 1]), (fnS [23, 1]), 0, [], .none, .none, .none, .none, none, .none, .none, 0⟩), #[]⟩
noncomputable def ob194 (_ : Params) : Obj := ⟨(.type "code"), none, (.fields #[(.str (.ofString "_get_nodeinfo") 445), (.str (.ofString "TopologicalSorter._get_nodeinfo") 446), (.str (.ofString "/claim/cut.py") 447), (.int 156 0), (.int 2 0), (.int 0 0), (.int 0 0), (.int 3 0), (.ref 189), (.bool true), (.int 181 0), (.ref 190), .none, (.ref 191), (.ref 192), (.ref 193), (.int 451 0), (.int 156 0), (.str (.ofString "/claim/cut.py") 452)]), #[]⟩
noncomputable def ob195 : Params → Obj := by
  refine' (?f : ∀ (ps : Arguments) (b : List Stmt) (sc : Scope), fnAt [23, 1] = some (ps, b, sc) → Params → Obj) _ _ _ ?h
  case h => exact rfl
  case f => exact fun ps b sc _ _ => ⟨(.type "function"), none, (.func ⟨(.ofString "_get_nodeinfo"), (.ofString "TopologicalSorter._get_nodeinfo"), ps, (.stmts b), sc, 3, [], .none, .none, .none, (.str (.ofString "cpy313.graphlib") 360), none, (.ref 194), .none, 0⟩), #[]⟩
noncomputable def ob196 (_ : Params) : Obj := ⟨(.type "tuple"), none, (.seq #[] 0), #[]⟩
noncomputable def ob197 (_ : Params) : Obj := ⟨.none, none, (.fields #[]), #[]⟩
noncomputable def ob198 (_ : Params) : Obj := ⟨(.type "tuple"), none, (.seq #[(.str (.ofString "self") 457), (.str (.ofString "node") 458), (.str (.ofString "predecessors") 459), (.str (.ofString "nodeinfo") 460), (.str (.ofString "pred") 461), (.str (.ofString "pred_info") 462)] 0), #[]⟩
noncomputable def ob199 (_ : Params) : Obj := ⟨(.type "tuple"), none, (.seq #[] 0), #[]⟩
noncomputable def ob200 (_ : Params) : Obj := ⟨.none, none, (.func ⟨(.ofString "add"), (.ofString "TopologicalSorter.add"), (fnA [23, 2]), (fnB [23, 2]), (fnS [23, 2]), 0, [], .none, .none, .none, .none, none, .none, .none, 0⟩), #[]⟩
noncomputable def ob201 (_ : Params) : Obj := ⟨(.type "code"), none, (.fields #[(.str (.ofString "add") 454), (.str (.ofString "TopologicalSorter.add") 455), (.str (.ofString "/claim/cut.py") 456), (.int 161 0), (.int 2 0), (.int 0 0), (.int 0 0), (.int 7 0), (.ref 196), (.bool true), (.int 181 0), (.ref 197), .none, (.ref 198), (.ref 199), (.ref 200), (.int 463 0), (.int 161 0), (.str (.ofString "/claim/cut.py") 464)]), #[]⟩
noncomputable def ob202 : Params → Obj := by
  refine' (?f : ∀ (ps : Arguments) (b : List Stmt) (sc : Scope), fnAt [23, 2] = some (ps, b, sc) → Params → Obj) _ _ _ ?h
  case h => exact rfl
  case f => exact fun ps b sc _ _ => ⟨(.type "function"), none, (.func ⟨(.ofString "add"), (.ofString "TopologicalSorter.add"), ps, (.stmts b), sc, 3, [], .none, .none, .none, (.str (.ofString "cpy313.graphlib") 360), none, (.ref 201), .none, 0⟩), #[]⟩
noncomputable def ob203 (_ : Params) : Obj := ⟨(.type "tuple"), none, (.seq #[] 0), #[]⟩
noncomputable def ob204 (_ : Params) : Obj := ⟨.none, none, (.fields #[]), #[]⟩
noncomputable def ob205 (_ : Params) : Obj := ⟨.none, none, (.func ⟨(.ofString "prepare"), (.ofString "TopologicalSorter.prepare"), (fnA [23, 3]), (fnB [23, 3]), (fnS [23, 3]), 0, [], .none, .none, .none, .none, none, .none, .none, 0⟩), #[]⟩
noncomputable def ob206 (_ : Params) : Obj := ⟨(.type "code"), none, (.fields #[(.str (.ofString "prepare") 466), (.str (.ofString "TopologicalSorter.prepare") 467), (.str (.ofString "/claim/cut.py") 468), (.int 170 0), (.int 1 0), (.int 0 0), (.int 0 0), (.int 3 0), (.ref 203), (.bool true), (.int 181 0), (.ref 204), .none, .none, .none, (.ref 205), (.int 469 0), (.int 170 0), (.str (.ofString "/claim/cut.py") 470)]), #[]⟩
noncomputable def ob207 : Params → Obj := by
  refine' (?f : ∀ (ps : Arguments) (b : List Stmt) (sc : Scope), fnAt [23, 3] = some (ps, b, sc) → Params → Obj) _ _ _ ?h
  case h => exact rfl
  case f => exact fun ps b sc _ _ => ⟨(.type "function"), none, (.func ⟨(.ofString "prepare"), (.ofString "TopologicalSorter.prepare"), ps, (.stmts b), sc, 3, [], .none, .none, .none, (.str (.ofString "cpy313.graphlib") 360), none, (.ref 206), .none, 0⟩), #[]⟩
noncomputable def ob208 (_ : Params) : Obj := ⟨(.type "tuple"), none, (.seq #[] 0), #[]⟩
noncomputable def ob209 (_ : Params) : Obj := ⟨.none, none, (.fields #[]), #[]⟩
noncomputable def ob210 (_ : Params) : Obj := ⟨(.type "tuple"), none, (.seq #[(.str (.ofString "self") 475), (.str (.ofString "result") 476), (.str (.ofString "n2i") 477), (.str (.ofString "node") 478)] 0), #[]⟩
noncomputable def ob211 (_ : Params) : Obj := ⟨(.type "tuple"), none, (.seq #[] 0), #[]⟩
noncomputable def ob212 (_ : Params) : Obj := ⟨.none, none, (.func ⟨(.ofString "get_ready"), (.ofString "TopologicalSorter.get_ready"), (fnA [23, 4]), (fnB [23, 4]), (fnS [23, 4]), 0, [], .none, .none, .none, .none, none, .none, .none, 0⟩), #[]⟩
noncomputable def ob213 (_ : Params) : Obj := ⟨(.type "code"), none, (.fields #[(.str (.ofString "get_ready") 472), (.str (.ofString "TopologicalSorter.get_ready") 473), (.str (.ofString "/claim/cut.py") 474), (.int 178 0), (.int 1 0), (.int 0 0), (.int 0 0), (.int 3 0), (.ref 208), (.bool true), (.int 181 0), (.ref 209), .none, (.ref 210), (.ref 211), (.ref 212), (.int 479 0), (.int 178 0), (.str (.ofString "/claim/cut.py") 480)]), #[]⟩
noncomputable def ob214 : Params → Obj := by
  refine' (?f : ∀ (ps : Arguments) (b : List Stmt) (sc : Scope), fnAt [23, 4] = some (ps, b, sc) → Params → Obj) _ _ _ ?h
  case h => exact rfl
  case f => exact fun ps b sc _ _ => ⟨(.type "function"), none, (.func ⟨(.ofString "get_ready"), (.ofString "TopologicalSorter.get_ready"), ps, (.stmts b), sc, 3, [], .none, .none, .none, (.str (.ofString "cpy313.graphlib") 360), none, (.ref 213), .none, 0⟩), #[]⟩
noncomputable def ob215 (_ : Params) : Obj := ⟨(.type "tuple"), none, (.seq #[] 0), #[]⟩
noncomputable def ob216 (_ : Params) : Obj := ⟨.none, none, (.fields #[]), #[]⟩
noncomputable def ob217 (_ : Params) : Obj := ⟨(.type "tuple"), none, (.seq #[(.str (.ofString "self") 485)] 0), #[]⟩
noncomputable def ob218 (_ : Params) : Obj := ⟨(.type "tuple"), none, (.seq #[] 0), #[]⟩
noncomputable def ob219 (_ : Params) : Obj := ⟨.none, none, (.func ⟨(.ofString "is_active"), (.ofString "TopologicalSorter.is_active"), (fnA [23, 5]), (fnB [23, 5]), (fnS [23, 5]), 0, [], .none, .none, .none, .none, none, .none, .none, 0⟩), #[]⟩
noncomputable def ob220 (_ : Params) : Obj := ⟨(.type "code"), none, (.fields #[(.str (.ofString "is_active") 482), (.str (.ofString "TopologicalSorter.is_active") 483), (.str (.ofString "/claim/cut.py") 484), (.int 189 0), (.int 1 0), (.int 0 0), (.int 0 0), (.int 3 0), (.ref 215), (.bool true), (.int 181 0), (.ref 216), .none, (.ref 217), (.ref 218), (.ref 219), (.int 486 0), (.int 189 0), (.str (.ofString "/claim/cut.py") 487)]), #[]⟩
noncomputable def ob221 : Params → Obj := by
  refine' (?f : ∀ (ps : Arguments) (b : List Stmt) (sc : Scope), fnAt [23, 5] = some (ps, b, sc) → Params → Obj) _ _ _ ?h
  case h => exact rfl
  case f => exact fun ps b sc _ _ => ⟨(.type "function"), none, (.func ⟨(.ofString "is_active"), (.ofString "TopologicalSorter.is_active"), ps, (.stmts b), sc, 3, [], .none, .none, .none, (.str (.ofString "cpy313.graphlib") 360), none, (.ref 220), .none, 0⟩), #[]⟩
noncomputable def ob222 (_ : Params) : Obj := ⟨(.type "tuple"), none, (.seq #[] 0), #[]⟩
noncomputable def ob223 (_ : Params) : Obj := ⟨.none, none, (.fields #[]), #[]⟩
noncomputable def ob224 (_ : Params) : Obj := ⟨(.type "tuple"), none, (.seq #[(.str (.ofString "self") 492)] 0), #[]⟩
noncomputable def ob225 (_ : Params) : Obj := ⟨(.type "tuple"), none, (.seq #[] 0), #[]⟩
noncomputable def ob226 (_ : Params) : Obj := ⟨.none, none, (.func ⟨(.ofString "__bool__"), (.ofString "TopologicalSorter.__bool__"), (fnA [23, 6]), (fnB [23, 6]), (fnS [23, 6]), 0, [], .none, .none, .none, .none, none, .none, .none, 0⟩), #[]⟩
noncomputable def ob227 (_ : Params) : Obj := ⟨(.type "code"), none, (.fields #[(.str (.ofString "__bool__") 489), (.str (.ofString "TopologicalSorter.__bool__") 490), (.str (.ofString "/claim/cut.py") 491), (.int 194 0), (.int 1 0), (.int 0 0), (.int 0 0), (.int 3 0), (.ref 222), (.bool true), (.int 181 0), (.ref 223), .none, (.ref 224), (.ref 225), (.ref 226), (.int 493 0), (.int 194 0), (.str (.ofString "/claim/cut.py") 494)]), #[]⟩
noncomputable def ob228 (_ : Params) : Obj := ⟨(.type "function"), none, (.func ⟨(.ofString "__bool__"), (.ofString "TopologicalSorter.__bool__"), (fnA [23, 6]), (fnB [23, 6]), (fnS [23, 6]), 3, [], .none, .none, .none, (.str (.ofString "cpy313.graphlib") 360), none, (.ref 227), .none, 0⟩), #[]⟩
noncomputable def ob229 (_ : Params) : Obj := ⟨(.type "tuple"), none, (.seq #[] 0), #[]⟩
noncomputable def ob230 (_ : Params) : Obj := ⟨.none, none, (.fields #[]), #[]⟩
noncomputable def ob231 (_ : Params) : Obj := ⟨(.type "tuple"), none, (.seq #[(.str (.ofString "self") 499), (.str (.ofString "nodes") 500), (.str (.ofString "n2i") 501), (.str (.ofString "node") 502), (.str (.ofString "nodeinfo") 503), (.str (.ofString "stat") 504), (.str (.ofString "successor") 505), (.str (.ofString "successor_info") 506)] 0), #[]⟩
noncomputable def ob232 (_ : Params) : Obj := ⟨(.type "tuple"), none, (.seq #[] 0), #[]⟩
noncomputable def ob233 (_ : Params) : Obj := ⟨.none, none, (.func ⟨(.ofString "done"), (.ofString "TopologicalSorter.done"), (fnA [23, 7]), (fnB [23, 7]), (fnS [23, 7]), 0, [], .none, .none, .none, .none, none, .none, .none, 0⟩), #[]⟩
noncomputable def ob234 (_ : Params) : Obj := ⟨(.type "code"), none, (.fields #[(.str (.ofString "done") 496), (.str (.ofString "TopologicalSorter.done") 497), (.str (.ofString "/claim/cut.py") 498), (.int 197 0), (.int 1 0), (.int 0 0), (.int 0 0), (.int 7 0), (.ref 229), (.bool true), (.int 181 0), (.ref 230), .none, (.ref 231), (.ref 232), (.ref 233), (.int 507 0), (.int 197 0), (.str (.ofString "/claim/cut.py") 508)]), #[]⟩
noncomputable def ob235 : Params → Obj := by
  refine' (?f : ∀ (ps : Arguments) (b : List Stmt) (sc : Scope), fnAt [23, 7] = some (ps, b, sc) → Params → Obj) _ _ _ ?h
  case h => exact rfl
  case f => exact fun ps b sc _ _ => ⟨(.type "function"), none, (.func ⟨(.ofString "done"), (.ofString "TopologicalSorter.done"), ps, (.stmts b), sc, 3, [], .none, .none, .none, (.str (.ofString "cpy313.graphlib") 360), none, (.ref 234), .none, 0⟩), #[]⟩
noncomputable def ob236 (_ : Params) : Obj := ⟨(.type "tuple"), none, (.seq #[] 0), #[]⟩
noncomputable def ob237 (_ : Params) : Obj := ⟨.none, none, (.fields #[]), #[]⟩
noncomputable def ob238 (_ : Params) : Obj := ⟨(.type "tuple"), none, (.seq #[(.str (.ofString "self") 513), (.str (.ofString "n2i") 514), (.str (.ofString "stack") 515), (.str (.ofString "itstack") 516), (.str (.ofString "seen") 517), (.str (.ofString "node2stacki") 518), (.str (.ofString "node") 519)] 0), #[]⟩
noncomputable def ob239 (_ : Params) : Obj := ⟨(.type "tuple"), none, (.seq #[] 0), #[]⟩
noncomputable def ob240 (_ : Params) : Obj := ⟨.none, none, (.func ⟨(.ofString "_find_cycle"), (.ofString "TopologicalSorter._find_cycle"), (fnA [23, 8]), (fnB [23, 8]), (fnS [23, 8]), 0, [], .none, .none, .none, .none, none, .none, .none, 0⟩), #[]⟩
noncomputable def ob241 (_ : Params) : Obj := ⟨(.type "code"), none, (.fields #[(.str (.ofString "_find_cycle") 510), (.str (.ofString "TopologicalSorter._find_cycle") 511), (.str (.ofString "/claim/cut.py") 512), (.int 220 0), (.int 1 0), (.int 0 0), (.int 0 0), (.int 3 0), (.ref 236), (.bool true), (.int 181 0), (.ref 237), .none, (.ref 238), (.ref 239), (.ref 240), (.int 520 0), (.int 220 0), (.str (.ofString "/claim/cut.py") 521)]), #[]⟩
noncomputable def ob242 : Params → Obj := by
  refine' (?f : ∀ (ps : Arguments) (b : List Stmt) (sc : Scope), fnAt [23, 8] = some (ps, b, sc) → Params → Obj) _ _ _ ?h
  case h => exact rfl
  case f => exact fun ps b sc _ _ => ⟨(.type "function"), none, (.func ⟨(.ofString "_find_cycle"), (.ofString "TopologicalSorter._find_cycle"), ps, (.stmts b), sc, 3, [], .none, .none, .none, (.str (.ofString "cpy313.graphlib") 360), none, (.ref 241), .none, 0⟩), #[]⟩
noncomputable def ob243 (_ : Params) : Obj := ⟨(.type "tuple"), none, (.seq #[] 0), #[]⟩
noncomputable def ob244 (_ : Params) : Obj := ⟨.none, none, (.fields #[]), #[]⟩
noncomputable def ob245 (_ : Params) : Obj := ⟨(.type "tuple"), none, (.seq #[(.str (.ofString "self") 526)] 0), #[]⟩
noncomputable def ob246 (_ : Params) : Obj := ⟨(.type "tuple"), none, (.seq #[] 0), #[]⟩
noncomputable def ob247 (_ : Params) : Obj := ⟨.none, none, (.func ⟨(.ofString "static_order"), (.ofString "TopologicalSorter.static_order"), (fnA [23, 9]), (fnB [23, 9]), (fnS [23, 9]), 0, [], .none, .none, .none, .none, none, .none, .none, 0⟩), #[]⟩
noncomputable def ob248 (_ : Params) : Obj := ⟨(.type "code"), none, (.fields #[(.str (.ofString "static_order") 523), (.str (.ofString "TopologicalSorter.static_order") 524), (.str (.ofString "/claim/cut.py") 525), (.int 249 0), (.int 1 0), (.int 0 0), (.int 0 0), (.int 3 0), (.ref 243), (.bool true), (.int 181 0), (.ref 244), .none, (.ref 245), (.ref 246), (.ref 247), (.int 527 0), (.int 249 0), (.str (.ofString "/claim/cut.py") 528)]), #[]⟩
noncomputable def ob249 (_ : Params) : Obj := ⟨(.type "function"), none, (.func ⟨(.ofString "static_order"), (.ofString "TopologicalSorter.static_order"), (fnA [23, 9]), (fnB [23, 9]), (fnS [23, 9]), 3, [], .none, .none, .none, (.str (.ofString "cpy313.graphlib") 360), none, (.ref 248), .none, 0⟩), #[]⟩
noncomputable def ob250 (_ : Params) : Obj := ⟨(.type "tuple"), none, (.seq #[(.str (.ofString "_nfinished") 530), (.str (.ofString "_node2info") 531), (.str (.ofString "_npassedout") 532), (.str (.ofString "_ready_nodes") 533)] 0), #[]⟩
noncomputable def ob251 (P : Params) : Obj := ⟨(.type "dict"), none, (.dict #[dr P "__module__" 430 (.str (.ofString "cpy313.graphlib") 360), dr P "__firstlineno__" 434 (.int 145 433), dr P "__init__" 444 (.ref 188), dr P "_get_nodeinfo" 453 (.ref 195), dr P "add" 465 (.ref 202), dr P "prepare" 471 (.ref 207), dr P "get_ready" 481 (.ref 214), dr P "is_active" 488 (.ref 221), dr P "__bool__" 495 (.ref 228), dr P "done" 509 (.ref 235), dr P "_find_cycle" 522 (.ref 242), dr P "static_order" 529 (.ref 249), dr P "__static_attributes__" 534 (.ref 250), dr P "__dict__" 536 (.ref 253), dr P "__weakref__" 538 (.ref 254), dr P "__doc__" 539 .none] 4), #[]⟩
noncomputable def ob252 (_ : Params) : Obj := ⟨(.type "type"), none, (.cls ⟨(.ofString "TopologicalSorter"), [(.type "object")], [(.ref 252), (.type "object")], 251, (.ofString "TopologicalSorter"), true, [], [], false, none, false⟩), #[none, none, (some (.str (.ofString "TopologicalSorter") 423)), (some (.str (.ofString "TopologicalSorter") 431)), (some (.builtin "object.__new__")), (some (.bool true))]⟩
noncomputable def ob253 (_ : Params) : Obj := ⟨(.type "getset_descriptor"), none, (.fields #[(.str (.ofString "__dict__") 535), (.ref 252), (.builtin "function.__dict__"), (.builtin "function.__dict__#set")]), #[]⟩
noncomputable def ob254 (_ : Params) : Obj := ⟨(.type "getset_descriptor"), none, (.fields #[(.str (.ofString "__weakref__") 537), (.ref 252), (.builtin "ExceptionGroup.__weakref__"), .none]), #[]⟩
noncomputable def ob255 (_ : Params) : Obj := ⟨(.type "super"), none, (.fields #[(.ref 252), (.ref 252), (.ref 252)]), #[]⟩
noncomputable def ob256 (_ : Params) : Obj := ⟨(.type "builtin_function_or_method"), none, (.fields #[(.builtin "object.__init_subclass__"), (.ref 252)]), #[]⟩
noncomputable def ob257 (_ : Params) : Obj := ⟨(.type "tuple"), none, (.seq #[] 0), #[]⟩
noncomputable def ob258 (_ : Params) : Obj := ⟨.none, none, (.fields #[]), #[]⟩
noncomputable def ob259 (_ : Params) : Obj := ⟨(.type "tuple"), none, (.seq #[(.str (.ofString "mode") 547)] 0), #[]⟩
noncomputable def ob260 (_ : Params) : Obj := ⟨(.type "tuple"), none, (.seq #[] 0), #[]⟩
noncomputable def ob261 (_ : Params) : Obj := ⟨.none, none, (.func ⟨(.ofString "S_IFMT"), (.ofString "S_IFMT"), (fnA [25]), (fnB [25]), (fnS [25]), 0, [], .none, .none, .none, .none, none, .none, .none, 0⟩), #[]⟩
noncomputable def ob262 (_ : Params) : Obj := ⟨(.type "code"), none, (.fields #[(.str (.ofString "S_IFMT") 544), (.str (.ofString "S_IFMT") 545), (.str (.ofString "/claim/cut.py") 546), (.int 252 0), (.int 1 0), (.int 0 0), (.int 0 0), (.int 3 0), (.ref 257), (.bool true), (.int 181 0), (.ref 258), .none, (.ref 259), (.ref 260), (.ref 261), (.int 548 0), (.int 252 0), (.str (.ofString "/claim/cut.py") 549)]), #[]⟩
noncomputable def ob263 : Params → Obj := by
  refine' (?f : ∀ (ps : Arguments) (b : List Stmt) (sc : Scope), fnAt [25] = some (ps, b, sc) → Params → Obj) _ _ _ ?h
  case h => exact rfl
  case f => exact fun ps b sc _ _ => ⟨(.type "function"), none, (.func ⟨(.ofString "S_IFMT"), (.ofString "S_IFMT"), ps, (.stmts b), sc, 3, [], .none, .none, .none, (.str (.ofString "cpy313.stat") 542), none, (.ref 262), .none, 0⟩), #[]⟩
noncomputable def ob264 (_ : Params) : Obj := ⟨(.type "tuple"), none, (.seq #[] 0), #[]⟩
noncomputable def ob265 (_ : Params) : Obj := ⟨.none, none, (.fields #[]), #[]⟩
noncomputable def ob266 (_ : Params) : Obj := ⟨(.type "tuple"), none, (.seq #[(.str (.ofString "mode") 568)] 0), #[]⟩
noncomputable def ob267 (_ : Params) : Obj := ⟨(.type "tuple"), none, (.seq #[] 0), #[]⟩
noncomputable def ob268 (_ : Params) : Obj := ⟨.none, none, (.func ⟨(.ofString "S_ISLNK"), (.ofString "S_ISLNK"), (fnA [33]), (fnB [33]), (fnS [33]), 0, [], .none, .none, .none, .none, none, .none, .none, 0⟩), #[]⟩
noncomputable def ob269 (_ : Params) : Obj := ⟨(.type "code"), none, (.fields #[(.str (.ofString "S_ISLNK") 565), (.str (.ofString "S_ISLNK") 566), (.str (.ofString "/claim/cut.py") 567), (.int 261 0), (.int 1 0), (.int 0 0), (.int 0 0), (.int 3 0), (.ref 264), (.bool true), (.int 181 0), (.ref 265), .none, (.ref 266), (.ref 267), (.ref 268), (.int 569 0), (.int 261 0), (.str (.ofString "/claim/cut.py") 570)]), #[]⟩
noncomputable def ob270 : Params → Obj := by
  refine' (?f : ∀ (ps : Arguments) (b : List Stmt) (sc : Scope), fnAt [33] = some (ps, b, sc) → Params → Obj) _ _ _ ?h
  case h => exact rfl
  case f => exact fun ps b sc _ _ => ⟨(.type "function"), none, (.func ⟨(.ofString "S_ISLNK"), (.ofString "S_ISLNK"), ps, (.stmts b), sc, 3, [], .none, .none, .none, (.str (.ofString "cpy313.stat") 542), none, (.ref 269), .none, 0⟩), #[]⟩
noncomputable def ob271 (_ : Params) : Obj := ⟨(.type "tuple"), none, (.seq #[(.int 40960 561), (.str (.ofString "l") 596)] 0), #[]⟩
noncomputable def ob272 (_ : Params) : Obj := ⟨(.type "tuple"), none, (.seq #[(.int 49152 563), (.str (.ofString "s") 597)] 0), #[]⟩
noncomputable def ob273 (_ : Params) : Obj := ⟨(.type "tuple"), none, (.seq #[(.int 32768 557), (.str (.ofString "-") 598)] 0), #[]⟩
noncomputable def ob274 (_ : Params) : Obj := ⟨(.type "tuple"), none, (.seq #[(.int 24576 555), (.str (.ofString "b") 599)] 0), #[]⟩
noncomputable def ob275 (_ : Params) : Obj := ⟨(.type "tuple"), none, (.seq #[(.int 16384 551), (.str (.ofString "d") 600)] 0), #[]⟩
noncomputable def ob276 (_ : Params) : Obj := ⟨(.type "tuple"), none, (.seq #[(.int 8192 553), (.str (.ofString "c") 601)] 0), #[]⟩
noncomputable def ob277 (_ : Params) : Obj := ⟨(.type "tuple"), none, (.seq #[(.int 4096 559), (.str (.ofString "p") 602)] 0), #[]⟩
noncomputable def ob278 (_ : Params) : Obj := ⟨(.type "tuple"), none, (.seq #[(.ref 271), (.ref 272), (.ref 273), (.ref 274), (.ref 275), (.ref 276), (.ref 277)] 0), #[]⟩
noncomputable def ob279 (_ : Params) : Obj := ⟨(.type "tuple"), none, (.seq #[(.int 256 578), (.str (.ofString "r") 603)] 0), #[]⟩
noncomputable def ob280 (_ : Params) : Obj := ⟨(.type "tuple"), none, (.seq #[(.ref 279)] 0), #[]⟩
noncomputable def ob281 (_ : Params) : Obj := ⟨(.type "tuple"), none, (.seq #[(.int 128 580), (.str (.ofString "w") 604)] 0), #[]⟩
noncomputable def ob282 (_ : Params) : Obj := ⟨(.type "tuple"), none, (.seq #[(.ref 281)] 0), #[]⟩
noncomputable def ob283 (_ : Params) : Obj := ⟨(.type "tuple"), none, (.seq #[(.int 2112 605), (.str (.ofString "s") 606)] 0), #[]⟩
noncomputable def ob284 (_ : Params) : Obj := ⟨(.type "tuple"), none, (.seq #[(.int 2048 572), (.str (.ofString "S") 607)] 0), #[]⟩
noncomputable def ob285 (_ : Params) : Obj := ⟨(.type "tuple"), none, (.seq #[(.int 64 582), (.str (.ofString "x") 608)] 0), #[]⟩
noncomputable def ob286 (_ : Params) : Obj := ⟨(.type "tuple"), none, (.seq #[(.ref 283), (.ref 284), (.ref 285)] 0), #[]⟩
noncomputable def ob287 (_ : Params) : Obj := ⟨(.type "tuple"), none, (.seq #[(.int 32 584), (.str (.ofString "r") 609)] 0), #[]⟩
noncomputable def ob288 (_ : Params) : Obj := ⟨(.type "tuple"), none, (.seq #[(.ref 287)] 0), #[]⟩
noncomputable def ob289 (_ : Params) : Obj := ⟨(.type "tuple"), none, (.seq #[(.int 16 586), (.str (.ofString "w") 610)] 0), #[]⟩
noncomputable def ob290 (_ : Params) : Obj := ⟨(.type "tuple"), none, (.seq #[(.ref 289)] 0), #[]⟩
noncomputable def ob291 (_ : Params) : Obj := ⟨(.type "tuple"), none, (.seq #[(.int 1032 611), (.str (.ofString "s") 612)] 0), #[]⟩
noncomputable def ob292 (_ : Params) : Obj := ⟨(.type "tuple"), none, (.seq #[(.int 1024 574), (.str (.ofString "S") 613)] 0), #[]⟩
noncomputable def ob293 (_ : Params) : Obj := ⟨(.type "tuple"), none, (.seq #[(.int 8 588), (.str (.ofString "x") 614)] 0), #[]⟩
noncomputable def ob294 (_ : Params) : Obj := ⟨(.type "tuple"), none, (.seq #[(.ref 291), (.ref 292), (.ref 293)] 0), #[]⟩
noncomputable def ob295 (_ : Params) : Obj := ⟨(.type "tuple"), none, (.seq #[(.int 4 590), (.str (.ofString "r") 615)] 0), #[]⟩
noncomputable def ob296 (_ : Params) : Obj := ⟨(.type "tuple"), none, (.seq #[(.ref 295)] 0), #[]⟩
noncomputable def ob297 (_ : Params) : Obj := ⟨(.type "tuple"), none, (.seq #[(.int 2 592), (.str (.ofString "w") 616)] 0), #[]⟩
noncomputable def ob298 (_ : Params) : Obj := ⟨(.type "tuple"), none, (.seq #[(.ref 297)] 0), #[]⟩
noncomputable def ob299 (_ : Params) : Obj := ⟨(.type "tuple"), none, (.seq #[(.int 513 617), (.str (.ofString "t") 618)] 0), #[]⟩
noncomputable def ob300 (_ : Params) : Obj := ⟨(.type "tuple"), none, (.seq #[(.int 512 576), (.str (.ofString "T") 619)] 0), #[]⟩
noncomputable def ob301 (_ : Params) : Obj := ⟨(.type "tuple"), none, (.seq #[(.int 1 594), (.str (.ofString "x") 620)] 0), #[]⟩
noncomputable def ob302 (_ : Params) : Obj := ⟨(.type "tuple"), none, (.seq #[(.ref 299), (.ref 300), (.ref 301)] 0), #[]⟩
noncomputable def ob303 (_ : Params) : Obj := ⟨(.type "tuple"), none, (.seq #[(.ref 278), (.ref 280), (.ref 282), (.ref 286), (.ref 288), (.ref 290), (.ref 294), (.ref 296), (.ref 298), (.ref 302)] 0), #[]⟩
noncomputable def ob304 (_ : Params) : Obj := ⟨(.type "tuple"), none, (.seq #[] 0), #[]⟩
noncomputable def ob305 (_ : Params) : Obj := ⟨.none, none, (.fields #[]), #[]⟩
noncomputable def ob306 (_ : Params) : Obj := ⟨(.type "tuple"), none, (.seq #[(.str (.ofString "mode") 625), (.str (.ofString "perm") 626), (.str (.ofString "index") 627), (.str (.ofString "table") 628), (.str (.ofString "bit") 629), (.str (.ofString "char") 630)] 0), #[]⟩
noncomputable def ob307 (_ : Params) : Obj := ⟨(.type "tuple"), none, (.seq #[] 0), #[]⟩
noncomputable def ob308 (_ : Params) : Obj := ⟨.none, none, (.func ⟨(.ofString "filemode"), (.ofString "filemode"), (fnA [47]), (fnB [47]), (fnS [47]), 0, [], .none, .none, .none, .none, none, .none, .none, 0⟩), #[]⟩
noncomputable def ob309 (_ : Params) : Obj := ⟨(.type "code"), none, (.fields #[(.str (.ofString "filemode") 622), (.str (.ofString "filemode") 623), (.str (.ofString "/claim/cut.py") 624), (.int 276 0), (.int 1 0), (.int 0 0), (.int 0 0), (.int 3 0), (.ref 304), (.bool true), (.int 181 0), (.ref 305), .none, (.ref 306), (.ref 307), (.ref 308), (.int 631 0), (.int 276 0), (.str (.ofString "/claim/cut.py") 632)]), #[]⟩
noncomputable def ob310 : Params → Obj := by
  refine' (?f : ∀ (ps : Arguments) (b : List Stmt) (sc : Scope), fnAt [47] = some (ps, b, sc) → Params → Obj) _ _ _ ?h
  case h => exact rfl
  case f => exact fun ps b sc _ _ => ⟨(.type "function"), none, (.func ⟨(.ofString "filemode"), (.ofString "filemode"), ps, (.stmts b), sc, 3, [], .none, .none, .none, (.str (.ofString "cpy313.stat") 542), none, (.ref 309), .none, 0⟩), #[]⟩
noncomputable def ob311 (_ : Params) : Obj := ⟨(.type "tuple"), none, (.seq #[] 0), #[]⟩
noncomputable def ob312 (_ : Params) : Obj := ⟨.none, none, (.fields #[]), #[]⟩
noncomputable def ob313 (_ : Params) : Obj := ⟨.none, none, (.func ⟨(.ofString "_law_drawn"), (.ofString "_law_drawn"), (fnA [49]), (fnB [49]), (fnS [49]), 0, [], .none, .none, .none, .none, none, .none, .none, 0⟩), #[]⟩
noncomputable def ob314 (_ : Params) : Obj := ⟨(.type "code"), none, (.fields #[(.str (.ofString "_law_drawn") 636), (.str (.ofString "_law_drawn") 637), (.str (.ofString "/claim/cut.py") 638), (.int 294 0), (.int 1 0), (.int 0 0), (.int 0 0), (.int 3 0), (.ref 311), (.bool true), (.int 181 0), (.ref 312), .none, .none, .none, (.ref 313), (.int 639 0), (.int 294 0), (.str (.ofString "/claim/cut.py") 640)]), #[]⟩
noncomputable def ob315 : Params → Obj := by
  refine' (?f : ∀ (ps : Arguments) (b : List Stmt) (sc : Scope), fnAt [49] = some (ps, b, sc) → Params → Obj) _ _ _ ?h
  case h => exact rfl
  case f => exact fun ps b sc _ _ => ⟨(.type "function"), none, (.func ⟨(.ofString "_law_drawn"), (.ofString "_law_drawn"), ps, (.stmts b), sc, 3, [], .none, .none, .none, (.str (.ofString "law_pd0160_01") 634), none, (.ref 314), .none, 0⟩), #[]⟩
noncomputable def ob316 (_ : Params) : Obj := ⟨(.type "tuple"), none, (.seq #[] 0), #[]⟩
noncomputable def ob317 (_ : Params) : Obj := ⟨.none, none, (.fields #[]), #[]⟩
noncomputable def ob318 (_ : Params) : Obj := ⟨.none, none, (.func ⟨(.ofString "_law_run"), (.ofString "_law_run"), (fnA [50]), (fnB [50]), (fnS [50]), 0, [], .none, .none, .none, .none, none, .none, .none, 0⟩), #[]⟩
noncomputable def ob319 (_ : Params) : Obj := ⟨(.type "code"), none, (.fields #[(.str (.ofString "_law_run") 642), (.str (.ofString "_law_run") 643), (.str (.ofString "/claim/cut.py") 644), (.int 309 0), (.int 1 0), (.int 0 0), (.int 0 0), (.int 3 0), (.ref 316), (.bool true), (.int 181 0), (.ref 317), .none, .none, .none, (.ref 318), (.int 645 0), (.int 309 0), (.str (.ofString "/claim/cut.py") 646)]), #[]⟩
noncomputable def ob320 : Params → Obj := by
  refine' (?f : ∀ (ps : Arguments) (b : List Stmt) (sc : Scope), fnAt [50] = some (ps, b, sc) → Params → Obj) _ _ _ ?h
  case h => exact rfl
  case f => exact fun ps b sc _ _ => ⟨(.type "function"), none, (.func ⟨(.ofString "_law_run"), (.ofString "_law_run"), ps, (.stmts b), sc, 3, [], .none, .none, .none, (.str (.ofString "law_pd0160_01") 634), none, (.ref 319), .none, 0⟩), #[]⟩
noncomputable def ob321 (_ : Params) : Obj := ⟨(.type "tuple"), none, (.seq #[] 0), #[]⟩
noncomputable def ob322 (_ : Params) : Obj := ⟨.none, none, (.fields #[]), #[]⟩
noncomputable def ob323 (_ : Params) : Obj := ⟨(.type "tuple"), none, (.seq #[(.str (.ofString "mode") 651), (.str (.ofString "row") 652), (.str (.ofString "place") 653), (.str (.ofString "figure") 654), (.str (.ofString "above") 655)] 0), #[]⟩
noncomputable def ob324 (_ : Params) : Obj := ⟨(.type "tuple"), none, (.seq #[] 0), #[]⟩
noncomputable def ob325 (_ : Params) : Obj := ⟨.none, none, (.func ⟨(.ofString "_law_row"), (.ofString "_law_row"), (fnA [51]), (fnB [51]), (fnS [51]), 0, [], .none, .none, .none, .none, none, .none, .none, 0⟩), #[]⟩
noncomputable def ob326 (_ : Params) : Obj := ⟨(.type "code"), none, (.fields #[(.str (.ofString "_law_row") 648), (.str (.ofString "_law_row") 649), (.str (.ofString "/claim/cut.py") 650), (.int 333 0), (.int 1 0), (.int 0 0), (.int 0 0), (.int 3 0), (.ref 321), (.bool true), (.int 181 0), (.ref 322), .none, (.ref 323), (.ref 324), (.ref 325), (.int 656 0), (.int 333 0), (.str (.ofString "/claim/cut.py") 657)]), #[]⟩
noncomputable def ob327 : Params → Obj := by
  refine' (?f : ∀ (ps : Arguments) (b : List Stmt) (sc : Scope), fnAt [51] = some (ps, b, sc) → Params → Obj) _ _ _ ?h
  case h => exact rfl
  case f => exact fun ps b sc _ _ => ⟨(.type "function"), none, (.func ⟨(.ofString "_law_row"), (.ofString "_law_row"), ps, (.stmts b), sc, 3, [], .none, .none, .none, (.str (.ofString "law_pd0160_01") 634), none, (.ref 326), .none, 0⟩), #[]⟩
noncomputable def ob328 (_ : Params) : Obj := ⟨(.type "tuple"), none, (.seq #[] 0), #[]⟩
noncomputable def ob329 (_ : Params) : Obj := ⟨.none, none, (.fields #[]), #[]⟩
noncomputable def ob330 (_ : Params) : Obj := ⟨.none, none, (.func ⟨(.ofString "_law_told"), (.ofString "_law_told"), (fnA [52]), (fnB [52]), (fnS [52]), 0, [], .none, .none, .none, .none, none, .none, .none, 0⟩), #[]⟩
noncomputable def ob331 (_ : Params) : Obj := ⟨(.type "code"), none, (.fields #[(.str (.ofString "_law_told") 659), (.str (.ofString "_law_told") 660), (.str (.ofString "/claim/cut.py") 661), (.int 341 0), (.int 1 0), (.int 0 0), (.int 0 0), (.int 3 0), (.ref 328), (.bool true), (.int 181 0), (.ref 329), .none, .none, .none, (.ref 330), (.int 662 0), (.int 341 0), (.str (.ofString "/claim/cut.py") 663)]), #[]⟩
noncomputable def ob332 : Params → Obj := by
  refine' (?f : ∀ (ps : Arguments) (b : List Stmt) (sc : Scope), fnAt [52] = some (ps, b, sc) → Params → Obj) _ _ _ ?h
  case h => exact rfl
  case f => exact fun ps b sc _ _ => ⟨(.type "function"), none, (.func ⟨(.ofString "_law_told"), (.ofString "_law_told"), ps, (.stmts b), sc, 3, [], .none, .none, .none, (.str (.ofString "law_pd0160_01") 634), none, (.ref 331), .none, 0⟩), #[]⟩
noncomputable def ob333 (_ : Params) : Obj := ⟨(.type "tuple"), none, (.seq #[] 0), #[]⟩
noncomputable def ob334 (_ : Params) : Obj := ⟨.none, none, (.fields #[]), #[]⟩
noncomputable def ob335 (_ : Params) : Obj := ⟨(.type "tuple"), none, (.seq #[(.str (.ofString "script") 668), (.str (.ofString "files") 669)] 0), #[]⟩
noncomputable def ob336 (_ : Params) : Obj := ⟨(.type "tuple"), none, (.seq #[] 0), #[]⟩
noncomputable def ob337 (_ : Params) : Obj := ⟨.none, none, (.func ⟨(.ofString "law"), (.ofString "law"), (fnA [53]), (fnB [53]), (fnS [53]), 0, [], .none, .none, .none, .none, none, .none, .none, 0⟩), #[]⟩
noncomputable def ob338 (_ : Params) : Obj := ⟨(.type "code"), none, (.fields #[(.str (.ofString "law") 665), (.str (.ofString "law") 666), (.str (.ofString "/claim/cut.py") 667), (.int 355 0), (.int 1 0), (.int 0 0), (.int 0 0), (.int 3 0), (.ref 333), (.bool true), (.int 181 0), (.ref 334), .none, (.ref 335), (.ref 336), (.ref 337), (.int 670 0), (.int 355 0), (.str (.ofString "/claim/cut.py") 671)]), #[]⟩
noncomputable def ob339 : Params → Obj := by
  refine' (?f : ∀ (ps : Arguments) (b : List Stmt) (sc : Scope), fnAt [53] = some (ps, b, sc) → Params → Obj) _ _ _ ?h
  case h => exact rfl
  case f => exact fun ps b sc _ _ => ⟨(.type "function"), none, (.func ⟨(.ofString "law"), (.ofString "law"), ps, (.stmts b), sc, 3, [], .none, .none, .none, (.str (.ofString "law_pd0160_01") 634), none, (.ref 338), .none, 0⟩), #[]⟩
noncomputable def ob12vA (_ : Params) : Obj := ⟨.none, none, (.fields #[]), #[]⟩
noncomputable def ob3v1 (P : Params) : Obj := ⟨(.type "dict"), none, (.dict #[dr P "__name__" 165 (.str (.ofString "collections.abc") 231), dr P "__doc__" 166 .none, dr P "__package__" 167 .none, dr P "__loader__" 168 (.builtin "__main__.__loader__#opaque"), dr P "__spec__" 169 .none, dr P "__annotations__" 170 (.ref 6), dr P "__builtins__" 171 (.ref 4), dr P "__file__" 173 (.str (.ofString "/claim/cut.py") 172), dr P "__cached__" 174 .none, dr P "_wall" 193 (.ref 21), dr P "_plain_name" 204 (.ref 28), dr P "ABCMeta" 230 (.ref 45)] 12), #[]⟩
noncomputable def ob12v1 (_ : Params) : Obj := ⟨.none, none, (.fields #[(.int 1 0), (.int 0 0), (.ref 20), (.int 5 0), (.int 0 0), (.ref 27), (.int 11 0), (.int 0 0), (.ref 34)]), #[]⟩
noncomputable def ob45v1 (_ : Params) : Obj := ⟨(.type "type"), none, (.cls ⟨(.ofString "ABCMeta"), [(.type "type")], [(.ref 45), (.type "type"), (.type "object")], 44, (.ofString "ABCMeta"), true, [], [], false, none, false⟩), #[(some (.ref 29)), none, (some (.str (.ofString "ABCMeta") 207)), (some (.str (.ofString "ABCMeta") 215)), (some (.builtin "type.__new__")), (some (.bool true))]⟩
noncomputable def ob3v2 (P : Params) : Obj := ⟨(.type "dict"), none, (.dict #[dr P "__name__" 165 (.str (.ofString "cpy313.genericpath") 293), dr P "__doc__" 166 .none, dr P "__package__" 167 .none, dr P "__loader__" 168 (.builtin "__main__.__loader__#opaque"), dr P "__spec__" 169 .none, dr P "__annotations__" 170 (.ref 6), dr P "__builtins__" 171 (.ref 4), dr P "__file__" 173 (.str (.ofString "/claim/cut.py") 172), dr P "__cached__" 174 .none, dr P "_wall" 193 (.ref 21), dr P "_plain_name" 204 (.ref 28), dr P "ABCMeta" 230 (.ref 45), dr P "_ABCLike" 273 (.ref 78), dr P "_abc_plain_meta" 280 (.ref 87), dr P "fspath" 292 (.ref 94)] 15), #[]⟩
noncomputable def ob12v2 (_ : Params) : Obj := ⟨.none, none, (.fields #[(.int 1 0), (.int 0 0), (.ref 20), (.int 5 0), (.int 0 0), (.ref 27), (.int 11 0), (.int 0 0), (.ref 34), (.int 16 0), (.int 0 0), (.ref 53), (.int 31 0), (.int 0 0), (.ref 86), (.int 35 0), (.int 0 0), (.ref 93)]), #[]⟩
noncomputable def ob3v3 (P : Params) : Obj := ⟨(.type "dict"), none, (.dict #[dr P "__name__" 165 (.str (.ofString "cpy313.graphlib") 360), dr P "__doc__" 166 .none, dr P "__package__" 167 .none, dr P "__loader__" 168 (.builtin "__main__.__loader__#opaque"), dr P "__spec__" 169 .none, dr P "__annotations__" 170 (.ref 6), dr P "__builtins__" 171 (.ref 4), dr P "__file__" 173 (.str (.ofString "/claim/cut.py") 172), dr P "__cached__" 174 .none, dr P "_wall" 193 (.ref 21), dr P "_plain_name" 204 (.ref 28), dr P "ABCMeta" 230 (.ref 45), dr P "_ABCLike" 273 (.ref 78), dr P "_abc_plain_meta" 280 (.ref 87), dr P "fspath" 292 (.ref 94), dr P "_check_arg_types" 305 (.ref 101), dr P "_get_sep" 314 (.ref 108), dr P "join" 325 (.ref 115), dr P "splitroot" 334 (.ref 122), dr P "dirname" 344 (.ref 129), dr P "normpath" 359 (.ref 136), dr P "_NODE_OUT" 364 (.int (-1) 363), dr P "_NODE_DONE" 367 (.int (-2) 366)] 23), #[]⟩
noncomputable def ob12v3 (_ : Params) : Obj := ⟨.none, none, (.fields #[(.int 1 0), (.int 0 0), (.ref 20), (.int 5 0), (.int 0 0), (.ref 27), (.int 11 0), (.int 0 0), (.ref 34), (.int 16 0), (.int 0 0), (.ref 53), (.int 31 0), (.int 0 0), (.ref 86), (.int 35 0), (.int 0 0), (.ref 93), (.int 52 0), (.int 0 0), (.ref 100), (.int 64 0), (.int 0 0), (.ref 107), (.int 69 0), (.int 0 0), (.ref 114), (.int 86 0), (.int 0 0), (.ref 121), (.int 100 0), (.int 0 0), (.ref 128), (.int 108 0), (.int 0 0), (.ref 135)]), #[]⟩
noncomputable def ob3v4 (P : Params) : Obj := ⟨(.type "dict"), none, (.dict #[dr P "__name__" 165 (.str (.ofString "cpy313.graphlib") 360), dr P "__doc__" 166 .none, dr P "__package__" 167 .none, dr P "__loader__" 168 (.builtin "__main__.__loader__#opaque"), dr P "__spec__" 169 .none, dr P "__annotations__" 170 (.ref 6), dr P "__builtins__" 171 (.ref 4), dr P "__file__" 173 (.str (.ofString "/claim/cut.py") 172), dr P "__cached__" 174 .none, dr P "_wall" 193 (.ref 21), dr P "_plain_name" 204 (.ref 28), dr P "ABCMeta" 230 (.ref 45), dr P "_ABCLike" 273 (.ref 78), dr P "_abc_plain_meta" 280 (.ref 87), dr P "fspath" 292 (.ref 94), dr P "_check_arg_types" 305 (.ref 101), dr P "_get_sep" 314 (.ref 108), dr P "join" 325 (.ref 115), dr P "splitroot" 334 (.ref 122), dr P "dirname" 344 (.ref 129), dr P "normpath" 359 (.ref 136), dr P "_NODE_OUT" 364 (.int (-1) 363), dr P "_NODE_DONE" 367 (.int (-2) 366), dr P "_NodeInfo" 404 (.ref 155)] 24), #[]⟩
noncomputable def ob12v4 (_ : Params) : Obj := ⟨.none, none, (.fields #[(.int 1 0), (.int 0 0), (.ref 20), (.int 5 0), (.int 0 0), (.ref 27), (.int 11 0), (.int 0 0), (.ref 34), (.int 16 0), (.int 0 0), (.ref 53), (.int 31 0), (.int 0 0), (.ref 86), (.int 35 0), (.int 0 0), (.ref 93), (.int 52 0), (.int 0 0), (.ref 100), (.int 64 0), (.int 0 0), (.ref 107), (.int 69 0), (.int 0 0), (.ref 114), (.int 86 0), (.int 0 0), (.ref 121), (.int 100 0), (.int 0 0), (.ref 128), (.int 108 0), (.int 0 0), (.ref 135), (.int 136 0), (.int 0 0), (.ref 142)]), #[]⟩
noncomputable def ob3v5 (P : Params) : Obj := ⟨(.type "dict"), none, (.dict #[dr P "__name__" 165 (.str (.ofString "cpy313.graphlib") 360), dr P "__doc__" 166 .none, dr P "__package__" 167 .none, dr P "__loader__" 168 (.builtin "__main__.__loader__#opaque"), dr P "__spec__" 169 .none, dr P "__annotations__" 170 (.ref 6), dr P "__builtins__" 171 (.ref 4), dr P "__file__" 173 (.str (.ofString "/claim/cut.py") 172), dr P "__cached__" 174 .none, dr P "_wall" 193 (.ref 21), dr P "_plain_name" 204 (.ref 28), dr P "ABCMeta" 230 (.ref 45), dr P "_ABCLike" 273 (.ref 78), dr P "_abc_plain_meta" 280 (.ref 87), dr P "fspath" 292 (.ref 94), dr P "_check_arg_types" 305 (.ref 101), dr P "_get_sep" 314 (.ref 108), dr P "join" 325 (.ref 115), dr P "splitroot" 334 (.ref 122), dr P "dirname" 344 (.ref 129), dr P "normpath" 359 (.ref 136), dr P "_NODE_OUT" 364 (.int (-1) 363), dr P "_NODE_DONE" 367 (.int (-2) 366), dr P "_NodeInfo" 404 (.ref 155), dr P "CycleError" 422 (.ref 170)] 25), #[]⟩
noncomputable def ob12v5 (_ : Params) : Obj := ⟨.none, none, (.fields #[(.int 1 0), (.int 0 0), (.ref 20), (.int 5 0), (.int 0 0), (.ref 27), (.int 11 0), (.int 0 0), (.ref 34), (.int 16 0), (.int 0 0), (.ref 53), (.int 31 0), (.int 0 0), (.ref 86), (.int 35 0), (.int 0 0), (.ref 93), (.int 52 0), (.int 0 0), (.ref 100), (.int 64 0), (.int 0 0), (.ref 107), (.int 69 0), (.int 0 0), (.ref 114), (.int 86 0), (.int 0 0), (.ref 121), (.int 100 0), (.int 0 0), (.ref 128), (.int 108 0), (.int 0 0), (.ref 135), (.int 136 0), (.int 0 0), (.ref 142), (.int 143 0), (.int 0 0), (.ref 166)]), #[]⟩
noncomputable def ob3v6 (P : Params) : Obj := ⟨(.type "dict"), none, (.dict #[dr P "__name__" 165 (.str (.ofString "cpy313.graphlib") 360), dr P "__doc__" 166 .none, dr P "__package__" 167 .none, dr P "__loader__" 168 (.builtin "__main__.__loader__#opaque"), dr P "__spec__" 169 .none, dr P "__annotations__" 170 (.ref 6), dr P "__builtins__" 171 (.ref 4), dr P "__file__" 173 (.str (.ofString "/claim/cut.py") 172), dr P "__cached__" 174 .none, dr P "_wall" 193 (.ref 21), dr P "_plain_name" 204 (.ref 28), dr P "ABCMeta" 230 (.ref 45), dr P "_ABCLike" 273 (.ref 78), dr P "_abc_plain_meta" 280 (.ref 87), dr P "fspath" 292 (.ref 94), dr P "_check_arg_types" 305 (.ref 101), dr P "_get_sep" 314 (.ref 108), dr P "join" 325 (.ref 115), dr P "splitroot" 334 (.ref 122), dr P "dirname" 344 (.ref 129), dr P "normpath" 359 (.ref 136), dr P "_NODE_OUT" 364 (.int (-1) 363), dr P "_NODE_DONE" 367 (.int (-2) 366), dr P "_NodeInfo" 404 (.ref 155), dr P "CycleError" 422 (.ref 170), dr P "TopologicalSorter" 541 (.ref 252)] 26), #[]⟩
noncomputable def ob12v6 (_ : Params) : Obj := ⟨.none, none, (.fields #[(.int 1 0), (.int 0 0), (.ref 20), (.int 5 0), (.int 0 0), (.ref 27), (.int 11 0), (.int 0 0), (.ref 34), (.int 16 0), (.int 0 0), (.ref 53), (.int 31 0), (.int 0 0), (.ref 86), (.int 35 0), (.int 0 0), (.ref 93), (.int 52 0), (.int 0 0), (.ref 100), (.int 64 0), (.int 0 0), (.ref 107), (.int 69 0), (.int 0 0), (.ref 114), (.int 86 0), (.int 0 0), (.ref 121), (.int 100 0), (.int 0 0), (.ref 128), (.int 108 0), (.int 0 0), (.ref 135), (.int 136 0), (.int 0 0), (.ref 142), (.int 143 0), (.int 0 0), (.ref 166), (.int 145 0), (.int 0 0), (.ref 179)]), #[]⟩
noncomputable def ob3v7 (P : Params) : Obj := ⟨(.type "dict"), none, (.dict #[dr P "__name__" 165 (.str (.ofString "cpy313.stat") 542), dr P "__doc__" 166 .none, dr P "__package__" 167 .none, dr P "__loader__" 168 (.builtin "__main__.__loader__#opaque"), dr P "__spec__" 169 .none, dr P "__annotations__" 170 (.ref 6), dr P "__builtins__" 171 (.ref 4), dr P "__file__" 173 (.str (.ofString "/claim/cut.py") 172), dr P "__cached__" 174 .none, dr P "_wall" 193 (.ref 21), dr P "_plain_name" 204 (.ref 28), dr P "ABCMeta" 230 (.ref 45), dr P "_ABCLike" 273 (.ref 78), dr P "_abc_plain_meta" 280 (.ref 87), dr P "fspath" 292 (.ref 94), dr P "_check_arg_types" 305 (.ref 101), dr P "_get_sep" 314 (.ref 108), dr P "join" 325 (.ref 115), dr P "splitroot" 334 (.ref 122), dr P "dirname" 344 (.ref 129), dr P "normpath" 359 (.ref 136), dr P "_NODE_OUT" 364 (.int (-1) 363), dr P "_NODE_DONE" 367 (.int (-2) 366), dr P "_NodeInfo" 404 (.ref 155), dr P "CycleError" 422 (.ref 170), dr P "TopologicalSorter" 541 (.ref 252), dr P "S_IFMT" 550 (.ref 263), dr P "S_IFDIR" 552 (.int 16384 551), dr P "S_IFCHR" 554 (.int 8192 553), dr P "S_IFBLK" 556 (.int 24576 555), dr P "S_IFREG" 558 (.int 32768 557), dr P "S_IFIFO" 560 (.int 4096 559), dr P "S_IFLNK" 562 (.int 40960 561), dr P "S_IFSOCK" 564 (.int 49152 563), dr P "S_ISLNK" 571 (.ref 270), dr P "S_ISUID" 573 (.int 2048 572), dr P "S_ISGID" 575 (.int 1024 574), dr P "S_ISVTX" 577 (.int 512 576), dr P "S_IRUSR" 579 (.int 256 578), dr P "S_IWUSR" 581 (.int 128 580), dr P "S_IXUSR" 583 (.int 64 582), dr P "S_IRGRP" 585 (.int 32 584), dr P "S_IWGRP" 587 (.int 16 586), dr P "S_IXGRP" 589 (.int 8 588), dr P "S_IROTH" 591 (.int 4 590), dr P "S_IWOTH" 593 (.int 2 592), dr P "S_IXOTH" 595 (.int 1 594), dr P "_filemode_table" 621 (.ref 303)] 48), #[]⟩
noncomputable def ob12v7 (_ : Params) : Obj := ⟨.none, none, (.fields #[(.int 1 0), (.int 0 0), (.ref 20), (.int 5 0), (.int 0 0), (.ref 27), (.int 11 0), (.int 0 0), (.ref 34), (.int 16 0), (.int 0 0), (.ref 53), (.int 31 0), (.int 0 0), (.ref 86), (.int 35 0), (.int 0 0), (.ref 93), (.int 52 0), (.int 0 0), (.ref 100), (.int 64 0), (.int 0 0), (.ref 107), (.int 69 0), (.int 0 0), (.ref 114), (.int 86 0), (.int 0 0), (.ref 121), (.int 100 0), (.int 0 0), (.ref 128), (.int 108 0), (.int 0 0), (.ref 135), (.int 136 0), (.int 0 0), (.ref 142), (.int 143 0), (.int 0 0), (.ref 166), (.int 145 0), (.int 0 0), (.ref 179), (.int 252 0), (.int 0 0), (.ref 262), (.int 261 0), (.int 0 0), (.ref 269)]), #[]⟩
noncomputable def hd.heap_39 : Params → Frag := fun P => ((nat_lit 2, boot_o_2 P) :: (nat_lit 3, ob3 P) :: (nat_lit 15, ob15 P) :: (nat_lit 17, ob17 P) :: (nat_lit 18, ob18 P) :: (nat_lit 20, ob20 P) :: (nat_lit 21, ob21 P) :: (nat_lit 22, ob22 P) :: (nat_lit 24, ob24 P) :: (nat_lit 25, ob25 P) :: (nat_lit 27, ob27 P) :: (nat_lit 28, ob28 P) :: (nat_lit 29, ob29 P) :: (nat_lit 36, ob36 P) :: (nat_lit 38, ob38 P) :: (nat_lit 39, ob39 P) :: (nat_lit 41, ob41 P) :: (nat_lit 42, ob42 P) :: (nat_lit 43, ob43 P) :: (nat_lit 44, ob44 P) :: (nat_lit 45, ob45 P) :: (nat_lit 48, ob48 P) :: (nat_lit 55, ob55 P) :: (nat_lit 57, ob57 P) :: (nat_lit 58, ob58 P) :: (nat_lit 60, ob60 P) :: (nat_lit 61, ob61 P) :: (nat_lit 62, ob62 P) :: (nat_lit 64, ob64 P) :: (nat_lit 65, ob65 P) :: (nat_lit 67, ob67 P) :: (nat_lit 68, ob68 P) :: (nat_lit 69, ob69 P) :: (nat_lit 71, ob71 P) :: (nat_lit 72, ob72 P) :: (nat_lit 74, ob74 P) :: (nat_lit 75, ob75 P) :: (nat_lit 76, ob76 P) :: (nat_lit 77, ob77 P) :: (nat_lit 78, ob78 P) :: (nat_lit 81, ob81 P) :: (nat_lit 83, ob83 P) :: (nat_lit 84, ob84 P) :: (nat_lit 86, ob86 P) :: (nat_lit 87, ob87 P) :: (nat_lit 88, ob88 P) :: (nat_lit 90, ob90 P) :: (nat_lit 91, ob91 P) :: (nat_lit 93, ob93 P) :: (nat_lit 94, ob94 P) :: (nat_lit 95, ob95 P) :: (nat_lit 97, ob97 P) :: (nat_lit 98, ob98 P) :: (nat_lit 100, ob100 P) :: (nat_lit 101, ob101 P) :: (nat_lit 102, ob102 P) :: (nat_lit 104, ob104 P) :: (nat_lit 105, ob105 P) :: (nat_lit 107, ob107 P) :: (nat_lit 108, ob108 P) :: (nat_lit 109, ob109 P) :: (nat_lit 111, ob111 P) :: (nat_lit 112, ob112 P) :: (nat_lit 114, ob114 P) :: (nat_lit 115, ob115 P) :: (nat_lit 116, ob116 P) :: (nat_lit 118, ob118 P) :: (nat_lit 119, ob119 P) :: (nat_lit 121, ob121 P) :: (nat_lit 122, ob122 P) :: (nat_lit 123, ob123 P) :: (nat_lit 125, ob125 P) :: (nat_lit 126, ob126 P) :: (nat_lit 128, ob128 P) :: (nat_lit 129, ob129 P) :: (nat_lit 130, ob130 P) :: (nat_lit 132, ob132 P) :: (nat_lit 133, ob133 P) :: (nat_lit 135, ob135 P) :: (nat_lit 136, ob136 P) :: (nat_lit 144, ob144 P) :: (nat_lit 145, ob145 P) :: (nat_lit 147, ob147 P) :: (nat_lit 148, ob148 P) :: (nat_lit 150, ob150 P) :: (nat_lit 151, ob151 P) :: (nat_lit 152, ob152 P) :: (nat_lit 154, ob154 P) :: (nat_lit 155, ob155 P) :: (nat_lit 156, ob156 P) :: (nat_lit 157, ob157 P) :: (nat_lit 158, ob158 P) :: (nat_lit 161, ob161 P) :: (nat_lit 168, ob168 P) :: (nat_lit 169, ob169 P) :: (nat_lit 170, ob170 P) :: (nat_lit 171, ob171 P) :: (nat_lit 181, ob181 P) :: (nat_lit 182, ob182 P) :: (nat_lit 184, ob184 P) :: (nat_lit 185, ob185 P) :: (nat_lit 187, ob187 P) :: (nat_lit 188, ob188 P) :: (nat_lit 189, ob189 P) :: (nat_lit 191, ob191 P) :: (nat_lit 192, ob192 P) :: (nat_lit 194, ob194 P) :: (nat_lit 195, ob195 P) :: (nat_lit 196, ob196 P) :: (nat_lit 198, ob198 P) :: (nat_lit 199, ob199 P) :: (nat_lit 201, ob201 P) :: (nat_lit 202, ob202 P) :: (nat_lit 203, ob203 P) :: (nat_lit 206, ob206 P) :: (nat_lit 207, ob207 P) :: (nat_lit 208, ob208 P) :: (nat_lit 210, ob210 P) :: (nat_lit 211, ob211 P) :: (nat_lit 213, ob213 P) :: (nat_lit 214, ob214 P) :: (nat_lit 215, ob215 P) :: (nat_lit 217, ob217 P) :: (nat_lit 218, ob218 P) :: (nat_lit 220, ob220 P) :: (nat_lit 221, ob221 P) :: (nat_lit 222, ob222 P) :: (nat_lit 224, ob224 P) :: (nat_lit 225, ob225 P) :: (nat_lit 227, ob227 P) :: (nat_lit 228, ob228 P) :: (nat_lit 229, ob229 P) :: (nat_lit 231, ob231 P) :: (nat_lit 232, ob232 P) :: (nat_lit 234, ob234 P) :: (nat_lit 235, ob235 P) :: (nat_lit 236, ob236 P) :: (nat_lit 238, ob238 P) :: (nat_lit 239, ob239 P) :: (nat_lit 241, ob241 P) :: (nat_lit 242, ob242 P) :: (nat_lit 243, ob243 P) :: (nat_lit 245, ob245 P) :: (nat_lit 246, ob246 P) :: (nat_lit 248, ob248 P) :: (nat_lit 249, ob249 P) :: (nat_lit 250, ob250 P) :: (nat_lit 251, ob251 P) :: (nat_lit 252, ob252 P) :: (nat_lit 253, ob253 P) :: (nat_lit 254, ob254 P) :: (nat_lit 257, ob257 P) :: (nat_lit 259, ob259 P) :: (nat_lit 260, ob260 P) :: (nat_lit 262, ob262 P) :: (nat_lit 263, ob263 P) :: (nat_lit 264, ob264 P) :: (nat_lit 266, ob266 P) :: (nat_lit 267, ob267 P) :: (nat_lit 269, ob269 P) :: (nat_lit 270, ob270 P) :: (nat_lit 271, ob271 P) :: (nat_lit 272, ob272 P) :: (nat_lit 273, ob273 P) :: (nat_lit 274, ob274 P) :: (nat_lit 275, ob275 P) :: (nat_lit 276, ob276 P) :: (nat_lit 277, ob277 P) :: (nat_lit 278, ob278 P) :: (nat_lit 279, ob279 P) :: (nat_lit 280, ob280 P) :: (nat_lit 281, ob281 P) :: (nat_lit 282, ob282 P) :: (nat_lit 283, ob283 P) :: (nat_lit 284, ob284 P) :: (nat_lit 285, ob285 P) :: (nat_lit 286, ob286 P) :: (nat_lit 287, ob287 P) :: (nat_lit 288, ob288 P) :: (nat_lit 289, ob289 P) :: (nat_lit 290, ob290 P) :: (nat_lit 291, ob291 P) :: (nat_lit 292, ob292 P) :: (nat_lit 293, ob293 P) :: (nat_lit 294, ob294 P) :: (nat_lit 295, ob295 P) :: (nat_lit 296, ob296 P) :: (nat_lit 297, ob297 P) :: (nat_lit 298, ob298 P) :: (nat_lit 299, ob299 P) :: (nat_lit 300, ob300 P) :: (nat_lit 301, ob301 P) :: (nat_lit 302, ob302 P) :: (nat_lit 303, ob303 P) :: (nat_lit 304, ob304 P) :: (nat_lit 306, ob306 P) :: (nat_lit 307, ob307 P) :: (nat_lit 309, ob309 P) :: (nat_lit 310, ob310 P) :: (nat_lit 311, ob311 P) :: (nat_lit 314, ob314 P) :: (nat_lit 315, ob315 P) :: (nat_lit 316, ob316 P) :: (nat_lit 319, ob319 P) :: (nat_lit 320, ob320 P) :: (nat_lit 321, ob321 P) :: (nat_lit 323, ob323 P) :: (nat_lit 324, ob324 P) :: (nat_lit 326, ob326 P) :: (nat_lit 327, ob327 P) :: (nat_lit 328, ob328 P) :: (nat_lit 331, ob331 P) :: (nat_lit 332, ob332 P) :: (nat_lit 333, ob333 P) :: (nat_lit 335, ob335 P) :: (nat_lit 336, ob336 P) :: (nat_lit 338, ob338 P) :: (nat_lit 339, ob339 P) :: [])
noncomputable abbrev kAs : List Addr := (2 :: 3 :: 15 :: 17 :: 18 :: 20 :: 21 :: 22 :: 24 :: 25 :: 27 :: 28 :: 29 :: 36 :: 38 :: 39 :: 41 :: 42 :: 43 :: 44 :: 45 :: 48 :: 55 :: 57 :: 58 :: 60 :: 61 :: 62 :: 64 :: 65 :: 67 :: 68 :: 69 :: 71 :: 72 :: 74 :: 75 :: 76 :: 77 :: 78 :: 81 :: 83 :: 84 :: 86 :: 87 :: 88 :: 90 :: 91 :: 93 :: 94 :: 95 :: 97 :: 98 :: 100 :: 101 :: 102 :: 104 :: 105 :: 107 :: 108 :: 109 :: 111 :: 112 :: 114 :: 115 :: 116 :: 118 :: 119 :: 121 :: 122 :: 123 :: 125 :: 126 :: 128 :: 129 :: 130 :: 132 :: 133 :: 135 :: 136 :: 144 :: 145 :: 147 :: 148 :: 150 :: 151 :: 152 :: 154 :: 155 :: 156 :: 157 :: 158 :: 161 :: 168 :: 169 :: 170 :: 171 :: 181 :: 182 :: 184 :: 185 :: 187 :: 188 :: 189 :: 191 :: 192 :: 194 :: 195 :: 196 :: 198 :: 199 :: 201 :: 202 :: 203 :: 206 :: 207 :: 208 :: 210 :: 211 :: 213 :: 214 :: 215 :: 217 :: 218 :: 220 :: 221 :: 222 :: 224 :: 225 :: 227 :: 228 :: 229 :: 231 :: 232 :: 234 :: 235 :: 236 :: 238 :: 239 :: 241 :: 242 :: 243 :: 245 :: 246 :: 248 :: 249 :: 250 :: 251 :: 252 :: 253 :: 254 :: 257 :: 259 :: 260 :: 262 :: 263 :: 264 :: 266 :: 267 :: 269 :: 270 :: 271 :: 272 :: 273 :: 274 :: 275 :: 276 :: 277 :: 278 :: 279 :: 280 :: 281 :: 282 :: 283 :: 284 :: 285 :: 286 :: 287 :: 288 :: 289 :: 290 :: 291 :: 292 :: 293 :: 294 :: 295 :: 296 :: 297 :: 298 :: 299 :: 300 :: 301 :: 302 :: 303 :: 304 :: 306 :: 307 :: 309 :: 310 :: 311 :: 314 :: 315 :: 316 :: 319 :: 320 :: 321 :: 323 :: 324 :: 326 :: 327 :: 328 :: 331 :: 332 :: 333 :: 335 :: 336 :: 338 :: 339 :: [])
noncomputable def heA (P : Params) : Heap := ⟨⟨(boot_o_0 P :: boot_o_1 P :: boot_o_2 P :: boot_o_3 P :: boot_o_4 P :: boot_o_5 P :: boot_o_6 P :: boot_o_7 P :: boot_o_8 P :: boot_o_9 P :: boot_o_10 P :: ob11 P :: ob12vA P :: ob13 P :: ob14 P :: [])⟩, {}⟩
noncomputable def heF (P : Params) : Heap := ⟨⟨(boot_o_0 P :: boot_o_1 P :: boot_o_2 P :: ob3 P :: boot_o_4 P :: boot_o_5 P :: boot_o_6 P :: boot_o_7 P :: boot_o_8 P :: boot_o_9 P :: boot_o_10 P :: ob11 P :: ob12 P :: ob13 P :: ob14 P :: ob15 P :: ob16 P :: ob17 P :: ob18 P :: ob19 P :: ob20 P :: ob21 P :: ob22 P :: ob23 P :: ob24 P :: ob25 P :: ob26 P :: ob27 P :: ob28 P :: ob29 P :: ob30 P :: ob31 P :: ob32 P :: ob33 P :: ob34 P :: ob35 P :: ob36 P :: ob37 P :: ob38 P :: ob39 P :: ob40 P :: ob41 P :: ob42 P :: ob43 P :: ob44 P :: ob45 P :: ob46 P :: ob47 P :: ob48 P :: ob49 P :: ob50 P :: ob51 P :: ob52 P :: ob53 P :: ob54 P :: ob55 P :: ob56 P :: ob57 P :: ob58 P :: ob59 P :: ob60 P :: ob61 P :: ob62 P :: ob63 P :: ob64 P :: ob65 P :: ob66 P :: ob67 P :: ob68 P :: ob69 P :: ob70 P :: ob71 P :: ob72 P :: ob73 P :: ob74 P :: ob75 P :: ob76 P :: ob77 P :: ob78 P :: ob79 P :: ob80 P :: ob81 P :: ob82 P :: ob83 P :: ob84 P :: ob85 P :: ob86 P :: ob87 P :: ob88 P :: ob89 P :: ob90 P :: ob91 P :: ob92 P :: ob93 P :: ob94 P :: ob95 P :: ob96 P :: ob97 P :: ob98 P :: ob99 P :: ob100 P :: ob101 P :: ob102 P :: ob103 P :: ob104 P :: ob105 P :: ob106 P :: ob107 P :: ob108 P :: ob109 P :: ob110 P :: ob111 P :: ob112 P :: ob113 P :: ob114 P :: ob115 P :: ob116 P :: ob117 P :: ob118 P :: ob119 P :: ob120 P :: ob121 P :: ob122 P :: ob123 P :: ob124 P :: ob125 P :: ob126 P :: ob127 P :: ob128 P :: ob129 P :: ob130 P :: ob131 P :: ob132 P :: ob133 P :: ob134 P :: ob135 P :: ob136 P :: ob137 P :: ob138 P :: ob139 P :: ob140 P :: ob141 P :: ob142 P :: ob143 P :: ob144 P :: ob145 P :: ob146 P :: ob147 P :: ob148 P :: ob149 P :: ob150 P :: ob151 P :: ob152 P :: ob153 P :: ob154 P :: ob155 P :: ob156 P :: ob157 P :: ob158 P :: ob159 P :: ob160 P :: ob161 P :: ob162 P :: ob163 P :: ob164 P :: ob165 P :: ob166 P :: ob167 P :: ob168 P :: ob169 P :: ob170 P :: ob171 P :: ob172 P :: ob173 P :: ob174 P :: ob175 P :: ob176 P :: ob177 P :: ob178 P :: ob179 P :: ob180 P :: ob181 P :: ob182 P :: ob183 P :: ob184 P :: ob185 P :: ob186 P :: ob187 P :: ob188 P :: ob189 P :: ob190 P :: ob191 P :: ob192 P :: ob193 P :: ob194 P :: ob195 P :: ob196 P :: ob197 P :: ob198 P :: ob199 P :: ob200 P :: ob201 P :: ob202 P :: ob203 P :: ob204 P :: ob205 P :: ob206 P :: ob207 P :: ob208 P :: ob209 P :: ob210 P :: ob211 P :: ob212 P :: ob213 P :: ob214 P :: ob215 P :: ob216 P :: ob217 P :: ob218 P :: ob219 P :: ob220 P :: ob221 P :: ob222 P :: ob223 P :: ob224 P :: ob225 P :: ob226 P :: ob227 P :: ob228 P :: ob229 P :: ob230 P :: ob231 P :: ob232 P :: ob233 P :: ob234 P :: ob235 P :: ob236 P :: ob237 P :: ob238 P :: ob239 P :: ob240 P :: ob241 P :: ob242 P :: ob243 P :: ob244 P :: ob245 P :: ob246 P :: ob247 P :: ob248 P :: ob249 P :: ob250 P :: ob251 P :: ob252 P :: ob253 P :: ob254 P :: ob255 P :: ob256 P :: ob257 P :: ob258 P :: ob259 P :: ob260 P :: ob261 P :: ob262 P :: ob263 P :: ob264 P :: ob265 P :: ob266 P :: ob267 P :: ob268 P :: ob269 P :: ob270 P :: ob271 P :: ob272 P :: ob273 P :: ob274 P :: ob275 P :: ob276 P :: ob277 P :: ob278 P :: ob279 P :: ob280 P :: ob281 P :: ob282 P :: ob283 P :: ob284 P :: ob285 P :: ob286 P :: ob287 P :: ob288 P :: ob289 P :: ob290 P :: ob291 P :: ob292 P :: ob293 P :: ob294 P :: ob295 P :: ob296 P :: ob297 P :: ob298 P :: ob299 P :: ob300 P :: ob301 P :: ob302 P :: ob303 P :: ob304 P :: ob305 P :: ob306 P :: ob307 P :: ob308 P :: ob309 P :: ob310 P :: ob311 P :: ob312 P :: ob313 P :: ob314 P :: ob315 P :: ob316 P :: ob317 P :: ob318 P :: ob319 P :: ob320 P :: ob321 P :: ob322 P :: ob323 P :: ob324 P :: ob325 P :: ob326 P :: ob327 P :: ob328 P :: ob329 P :: ob330 P :: ob331 P :: ob332 P :: ob333 P :: ob334 P :: ob335 P :: ob336 P :: ob337 P :: ob338 P :: ob339 P :: [])⟩, {}⟩
noncomputable def trB (P : Params) : BT := (.node (boot_o_0 P) (.node (boot_o_1 P) (.node (boot_o_3 P) (.node (boot_o_7 P) .nil .nil) (.node (ob11 P) .nil .nil)) (.node (boot_o_5 P) (.node (boot_o_9 P) .nil .nil) (.node (ob13 P) .nil .nil))) (.node (boot_o_2 P) (.node (boot_o_4 P) (.node (boot_o_8 P) .nil .nil) (.node (ob12vA P) .nil .nil)) (.node (boot_o_6 P) (.node (boot_o_10 P) .nil .nil) (.node (ob14 P) .nil .nil))))
noncomputable def tr1 (P : Params) : BT := (.node (boot_o_0 P) (.node (boot_o_1 P) (.node (ob3v1 P) (.node (boot_o_7 P) (.node (ob15 P) (.node (ob31 P) .nil .nil) (.node (ob47 P) .nil .nil)) (.node (ob23 P) (.node (ob39 P) .nil .nil) .nil)) (.node (ob11 P) (.node (ob19 P) (.node (ob35 P) .nil .nil) .nil) (.node (ob27 P) (.node (ob43 P) .nil .nil) .nil))) (.node (boot_o_5 P) (.node (boot_o_9 P) (.node (ob17 P) (.node (ob33 P) .nil .nil) .nil) (.node (ob25 P) (.node (ob41 P) .nil .nil) .nil)) (.node (ob13 P) (.node (ob21 P) (.node (ob37 P) .nil .nil) .nil) (.node (ob29 P) (.node (ob45v1 P) .nil .nil) .nil)))) (.node (boot_o_2 P) (.node (boot_o_4 P) (.node (boot_o_8 P) (.node (ob16 P) (.node (ob32 P) .nil .nil) .nil) (.node (ob24 P) (.node (ob40 P) .nil .nil) .nil)) (.node (ob12v1 P) (.node (ob20 P) (.node (ob36 P) .nil .nil) .nil) (.node (ob28 P) (.node (ob44 P) .nil .nil) .nil))) (.node (boot_o_6 P) (.node (boot_o_10 P) (.node (ob18 P) (.node (ob34 P) .nil .nil) .nil) (.node (ob26 P) (.node (ob42 P) .nil .nil) .nil)) (.node (ob14 P) (.node (ob22 P) (.node (ob38 P) .nil .nil) .nil) (.node (ob30 P) (.node (ob46 P) .nil .nil) .nil)))))
noncomputable def tr2 (P : Params) : BT := (.node (boot_o_0 P) (.node (boot_o_1 P) (.node (ob3v2 P) (.node (boot_o_7 P) (.node (ob15 P) (.node (ob31 P) (.node (ob63 P) .nil .nil) .nil) (.node (ob47 P) (.node (ob79 P) .nil .nil) .nil)) (.node (ob23 P) (.node (ob39 P) (.node (ob71 P) .nil .nil) .nil) (.node (ob55 P) (.node (ob87 P) .nil .nil) .nil))) (.node (ob11 P) (.node (ob19 P) (.node (ob35 P) (.node (ob67 P) .nil .nil) .nil) (.node (ob51 P) (.node (ob83 P) .nil .nil) .nil)) (.node (ob27 P) (.node (ob43 P) (.node (ob75 P) .nil .nil) .nil) (.node (ob59 P) (.node (ob91 P) .nil .nil) .nil)))) (.node (boot_o_5 P) (.node (boot_o_9 P) (.node (ob17 P) (.node (ob33 P) (.node (ob65 P) .nil .nil) .nil) (.node (ob49 P) (.node (ob81 P) .nil .nil) .nil)) (.node (ob25 P) (.node (ob41 P) (.node (ob73 P) .nil .nil) .nil) (.node (ob57 P) (.node (ob89 P) .nil .nil) .nil))) (.node (ob13 P) (.node (ob21 P) (.node (ob37 P) (.node (ob69 P) .nil .nil) .nil) (.node (ob53 P) (.node (ob85 P) .nil .nil) .nil)) (.node (ob29 P) (.node (ob45 P) (.node (ob77 P) .nil .nil) .nil) (.node (ob61 P) (.node (ob93 P) .nil .nil) .nil))))) (.node (boot_o_2 P) (.node (boot_o_4 P) (.node (boot_o_8 P) (.node (ob16 P) (.node (ob32 P) (.node (ob64 P) .nil .nil) .nil) (.node (ob48 P) (.node (ob80 P) .nil .nil) .nil)) (.node (ob24 P) (.node (ob40 P) (.node (ob72 P) .nil .nil) .nil) (.node (ob56 P) (.node (ob88 P) .nil .nil) .nil))) (.node (ob12v2 P) (.node (ob20 P) (.node (ob36 P) (.node (ob68 P) .nil .nil) .nil) (.node (ob52 P) (.node (ob84 P) .nil .nil) .nil)) (.node (ob28 P) (.node (ob44 P) (.node (ob76 P) .nil .nil) .nil) (.node (ob60 P) (.node (ob92 P) .nil .nil) .nil)))) (.node (boot_o_6 P) (.node (boot_o_10 P) (.node (ob18 P) (.node (ob34 P) (.node (ob66 P) .nil .nil) .nil) (.node (ob50 P) (.node (ob82 P) .nil .nil) .nil)) (.node (ob26 P) (.node (ob42 P) (.node (ob74 P) .nil .nil) .nil) (.node (ob58 P) (.node (ob90 P) .nil .nil) .nil))) (.node (ob14 P) (.node (ob22 P) (.node (ob38 P) (.node (ob70 P) .nil .nil) .nil) (.node (ob54 P) (.node (ob86 P) .nil .nil) .nil)) (.node (ob30 P) (.node (ob46 P) (.node (ob78 P) .nil .nil) .nil) (.node (ob62 P) (.node (ob94 P) .nil .nil) .nil))))))
noncomputable def tr3 (P : Params) : BT := (.node (boot_o_0 P) (.node (boot_o_1 P) (.node (ob3v3 P) (.node (boot_o_7 P) (.node (ob15 P) (.node (ob31 P) (.node (ob63 P) (.node (ob127 P) .nil .nil) .nil) (.node (ob95 P) .nil .nil)) (.node (ob47 P) (.node (ob79 P) .nil .nil) (.node (ob111 P) .nil .nil))) (.node (ob23 P) (.node (ob39 P) (.node (ob71 P) (.node (ob135 P) .nil .nil) .nil) (.node (ob103 P) .nil .nil)) (.node (ob55 P) (.node (ob87 P) .nil .nil) (.node (ob119 P) .nil .nil)))) (.node (ob11 P) (.node (ob19 P) (.node (ob35 P) (.node (ob67 P) (.node (ob131 P) .nil .nil) .nil) (.node (ob99 P) .nil .nil)) (.node (ob51 P) (.node (ob83 P) .nil .nil) (.node (ob115 P) .nil .nil))) (.node (ob27 P) (.node (ob43 P) (.node (ob75 P) .nil .nil) (.node (ob107 P) .nil .nil)) (.node (ob59 P) (.node (ob91 P) .nil .nil) (.node (ob123 P) .nil .nil))))) (.node (boot_o_5 P) (.node (boot_o_9 P) (.node (ob17 P) (.node (ob33 P) (.node (ob65 P) (.node (ob129 P) .nil .nil) .nil) (.node (ob97 P) .nil .nil)) (.node (ob49 P) (.node (ob81 P) .nil .nil) (.node (ob113 P) .nil .nil))) (.node (ob25 P) (.node (ob41 P) (.node (ob73 P) .nil .nil) (.node (ob105 P) .nil .nil)) (.node (ob57 P) (.node (ob89 P) .nil .nil) (.node (ob121 P) .nil .nil)))) (.node (ob13 P) (.node (ob21 P) (.node (ob37 P) (.node (ob69 P) (.node (ob133 P) .nil .nil) .nil) (.node (ob101 P) .nil .nil)) (.node (ob53 P) (.node (ob85 P) .nil .nil) (.node (ob117 P) .nil .nil))) (.node (ob29 P) (.node (ob45 P) (.node (ob77 P) .nil .nil) (.node (ob109 P) .nil .nil)) (.node (ob61 P) (.node (ob93 P) .nil .nil) (.node (ob125 P) .nil .nil)))))) (.node (boot_o_2 P) (.node (boot_o_4 P) (.node (boot_o_8 P) (.node (ob16 P) (.node (ob32 P) (.node (ob64 P) (.node (ob128 P) .nil .nil) .nil) (.node (ob96 P) .nil .nil)) (.node (ob48 P) (.node (ob80 P) .nil .nil) (.node (ob112 P) .nil .nil))) (.node (ob24 P) (.node (ob40 P) (.node (ob72 P) (.node (ob136 P) .nil .nil) .nil) (.node (ob104 P) .nil .nil)) (.node (ob56 P) (.node (ob88 P) .nil .nil) (.node (ob120 P) .nil .nil)))) (.node (ob12v3 P) (.node (ob20 P) (.node (ob36 P) (.node (ob68 P) (.node (ob132 P) .nil .nil) .nil) (.node (ob100 P) .nil .nil)) (.node (ob52 P) (.node (ob84 P) .nil .nil) (.node (ob116 P) .nil .nil))) (.node (ob28 P) (.node (ob44 P) (.node (ob76 P) .nil .nil) (.node (ob108 P) .nil .nil)) (.node (ob60 P) (.node (ob92 P) .nil .nil) (.node (ob124 P) .nil .nil))))) (.node (boot_o_6 P) (.node (boot_o_10 P) (.node (ob18 P) (.node (ob34 P) (.node (ob66 P) (.node (ob130 P) .nil .nil) .nil) (.node (ob98 P) .nil .nil)) (.node (ob50 P) (.node (ob82 P) .nil .nil) (.node (ob114 P) .nil .nil))) (.node (ob26 P) (.node (ob42 P) (.node (ob74 P) .nil .nil) (.node (ob106 P) .nil .nil)) (.node (ob58 P) (.node (ob90 P) .nil .nil) (.node (ob122 P) .nil .nil)))) (.node (ob14 P) (.node (ob22 P) (.node (ob38 P) (.node (ob70 P) (.node (ob134 P) .nil .nil) .nil) (.node (ob102 P) .nil .nil)) (.node (ob54 P) (.node (ob86 P) .nil .nil) (.node (ob118 P) .nil .nil))) (.node (ob30 P) (.node (ob46 P) (.node (ob78 P) .nil .nil) (.node (ob110 P) .nil .nil)) (.node (ob62 P) (.node (ob94 P) .nil .nil) (.node (ob126 P) .nil .nil)))))))
noncomputable def tr4 (P : Params) : BT := (.node (boot_o_0 P) (.node (boot_o_1 P) (.node (ob3v4 P) (.node (boot_o_7 P) (.node (ob15 P) (.node (ob31 P) (.node (ob63 P) (.node (ob127 P) .nil .nil) .nil) (.node (ob95 P) (.node (ob159 P) .nil .nil) .nil)) (.node (ob47 P) (.node (ob79 P) (.node (ob143 P) .nil .nil) .nil) (.node (ob111 P) .nil .nil))) (.node (ob23 P) (.node (ob39 P) (.node (ob71 P) (.node (ob135 P) .nil .nil) .nil) (.node (ob103 P) .nil .nil)) (.node (ob55 P) (.node (ob87 P) (.node (ob151 P) .nil .nil) .nil) (.node (ob119 P) .nil .nil)))) (.node (ob11 P) (.node (ob19 P) (.node (ob35 P) (.node (ob67 P) (.node (ob131 P) .nil .nil) .nil) (.node (ob99 P) .nil .nil)) (.node (ob51 P) (.node (ob83 P) (.node (ob147 P) .nil .nil) .nil) (.node (ob115 P) .nil .nil))) (.node (ob27 P) (.node (ob43 P) (.node (ob75 P) (.node (ob139 P) .nil .nil) .nil) (.node (ob107 P) .nil .nil)) (.node (ob59 P) (.node (ob91 P) (.node (ob155 P) .nil .nil) .nil) (.node (ob123 P) .nil .nil))))) (.node (boot_o_5 P) (.node (boot_o_9 P) (.node (ob17 P) (.node (ob33 P) (.node (ob65 P) (.node (ob129 P) .nil .nil) .nil) (.node (ob97 P) .nil .nil)) (.node (ob49 P) (.node (ob81 P) (.node (ob145 P) .nil .nil) .nil) (.node (ob113 P) .nil .nil))) (.node (ob25 P) (.node (ob41 P) (.node (ob73 P) (.node (ob137 P) .nil .nil) .nil) (.node (ob105 P) .nil .nil)) (.node (ob57 P) (.node (ob89 P) (.node (ob153 P) .nil .nil) .nil) (.node (ob121 P) .nil .nil)))) (.node (ob13 P) (.node (ob21 P) (.node (ob37 P) (.node (ob69 P) (.node (ob133 P) .nil .nil) .nil) (.node (ob101 P) .nil .nil)) (.node (ob53 P) (.node (ob85 P) (.node (ob149 P) .nil .nil) .nil) (.node (ob117 P) .nil .nil))) (.node (ob29 P) (.node (ob45 P) (.node (ob77 P) (.node (ob141 P) .nil .nil) .nil) (.node (ob109 P) .nil .nil)) (.node (ob61 P) (.node (ob93 P) (.node (ob157 P) .nil .nil) .nil) (.node (ob125 P) .nil .nil)))))) (.node (boot_o_2 P) (.node (boot_o_4 P) (.node (boot_o_8 P) (.node (ob16 P) (.node (ob32 P) (.node (ob64 P) (.node (ob128 P) .nil .nil) .nil) (.node (ob96 P) (.node (ob160 P) .nil .nil) .nil)) (.node (ob48 P) (.node (ob80 P) (.node (ob144 P) .nil .nil) .nil) (.node (ob112 P) .nil .nil))) (.node (ob24 P) (.node (ob40 P) (.node (ob72 P) (.node (ob136 P) .nil .nil) .nil) (.node (ob104 P) .nil .nil)) (.node (ob56 P) (.node (ob88 P) (.node (ob152 P) .nil .nil) .nil) (.node (ob120 P) .nil .nil)))) (.node (ob12v4 P) (.node (ob20 P) (.node (ob36 P) (.node (ob68 P) (.node (ob132 P) .nil .nil) .nil) (.node (ob100 P) .nil .nil)) (.node (ob52 P) (.node (ob84 P) (.node (ob148 P) .nil .nil) .nil) (.node (ob116 P) .nil .nil))) (.node (ob28 P) (.node (ob44 P) (.node (ob76 P) (.node (ob140 P) .nil .nil) .nil) (.node (ob108 P) .nil .nil)) (.node (ob60 P) (.node (ob92 P) (.node (ob156 P) .nil .nil) .nil) (.node (ob124 P) .nil .nil))))) (.node (boot_o_6 P) (.node (boot_o_10 P) (.node (ob18 P) (.node (ob34 P) (.node (ob66 P) (.node (ob130 P) .nil .nil) .nil) (.node (ob98 P) .nil .nil)) (.node (ob50 P) (.node (ob82 P) (.node (ob146 P) .nil .nil) .nil) (.node (ob114 P) .nil .nil))) (.node (ob26 P) (.node (ob42 P) (.node (ob74 P) (.node (ob138 P) .nil .nil) .nil) (.node (ob106 P) .nil .nil)) (.node (ob58 P) (.node (ob90 P) (.node (ob154 P) .nil .nil) .nil) (.node (ob122 P) .nil .nil)))) (.node (ob14 P) (.node (ob22 P) (.node (ob38 P) (.node (ob70 P) (.node (ob134 P) .nil .nil) .nil) (.node (ob102 P) .nil .nil)) (.node (ob54 P) (.node (ob86 P) (.node (ob150 P) .nil .nil) .nil) (.node (ob118 P) .nil .nil))) (.node (ob30 P) (.node (ob46 P) (.node (ob78 P) (.node (ob142 P) .nil .nil) .nil) (.node (ob110 P) .nil .nil)) (.node (ob62 P) (.node (ob94 P) (.node (ob158 P) .nil .nil) .nil) (.node (ob126 P) .nil .nil)))))))
noncomputable def tr5 (P : Params) : BT := (.node (boot_o_0 P) (.node (boot_o_1 P) (.node (ob3v5 P) (.node (boot_o_7 P) (.node (ob15 P) (.node (ob31 P) (.node (ob63 P) (.node (ob127 P) .nil .nil) .nil) (.node (ob95 P) (.node (ob159 P) .nil .nil) .nil)) (.node (ob47 P) (.node (ob79 P) (.node (ob143 P) .nil .nil) .nil) (.node (ob111 P) .nil .nil))) (.node (ob23 P) (.node (ob39 P) (.node (ob71 P) (.node (ob135 P) .nil .nil) .nil) (.node (ob103 P) (.node (ob167 P) .nil .nil) .nil)) (.node (ob55 P) (.node (ob87 P) (.node (ob151 P) .nil .nil) .nil) (.node (ob119 P) .nil .nil)))) (.node (ob11 P) (.node (ob19 P) (.node (ob35 P) (.node (ob67 P) (.node (ob131 P) .nil .nil) .nil) (.node (ob99 P) (.node (ob163 P) .nil .nil) .nil)) (.node (ob51 P) (.node (ob83 P) (.node (ob147 P) .nil .nil) .nil) (.node (ob115 P) .nil .nil))) (.node (ob27 P) (.node (ob43 P) (.node (ob75 P) (.node (ob139 P) .nil .nil) .nil) (.node (ob107 P) (.node (ob171 P) .nil .nil) .nil)) (.node (ob59 P) (.node (ob91 P) (.node (ob155 P) .nil .nil) .nil) (.node (ob123 P) .nil .nil))))) (.node (boot_o_5 P) (.node (boot_o_9 P) (.node (ob17 P) (.node (ob33 P) (.node (ob65 P) (.node (ob129 P) .nil .nil) .nil) (.node (ob97 P) (.node (ob161 P) .nil .nil) .nil)) (.node (ob49 P) (.node (ob81 P) (.node (ob145 P) .nil .nil) .nil) (.node (ob113 P) .nil .nil))) (.node (ob25 P) (.node (ob41 P) (.node (ob73 P) (.node (ob137 P) .nil .nil) .nil) (.node (ob105 P) (.node (ob169 P) .nil .nil) .nil)) (.node (ob57 P) (.node (ob89 P) (.node (ob153 P) .nil .nil) .nil) (.node (ob121 P) .nil .nil)))) (.node (ob13 P) (.node (ob21 P) (.node (ob37 P) (.node (ob69 P) (.node (ob133 P) .nil .nil) .nil) (.node (ob101 P) (.node (ob165 P) .nil .nil) .nil)) (.node (ob53 P) (.node (ob85 P) (.node (ob149 P) .nil .nil) .nil) (.node (ob117 P) .nil .nil))) (.node (ob29 P) (.node (ob45 P) (.node (ob77 P) (.node (ob141 P) .nil .nil) .nil) (.node (ob109 P) (.node (ob173 P) .nil .nil) .nil)) (.node (ob61 P) (.node (ob93 P) (.node (ob157 P) .nil .nil) .nil) (.node (ob125 P) .nil .nil)))))) (.node (boot_o_2 P) (.node (boot_o_4 P) (.node (boot_o_8 P) (.node (ob16 P) (.node (ob32 P) (.node (ob64 P) (.node (ob128 P) .nil .nil) .nil) (.node (ob96 P) (.node (ob160 P) .nil .nil) .nil)) (.node (ob48 P) (.node (ob80 P) (.node (ob144 P) .nil .nil) .nil) (.node (ob112 P) .nil .nil))) (.node (ob24 P) (.node (ob40 P) (.node (ob72 P) (.node (ob136 P) .nil .nil) .nil) (.node (ob104 P) (.node (ob168 P) .nil .nil) .nil)) (.node (ob56 P) (.node (ob88 P) (.node (ob152 P) .nil .nil) .nil) (.node (ob120 P) .nil .nil)))) (.node (ob12v5 P) (.node (ob20 P) (.node (ob36 P) (.node (ob68 P) (.node (ob132 P) .nil .nil) .nil) (.node (ob100 P) (.node (ob164 P) .nil .nil) .nil)) (.node (ob52 P) (.node (ob84 P) (.node (ob148 P) .nil .nil) .nil) (.node (ob116 P) .nil .nil))) (.node (ob28 P) (.node (ob44 P) (.node (ob76 P) (.node (ob140 P) .nil .nil) .nil) (.node (ob108 P) (.node (ob172 P) .nil .nil) .nil)) (.node (ob60 P) (.node (ob92 P) (.node (ob156 P) .nil .nil) .nil) (.node (ob124 P) .nil .nil))))) (.node (boot_o_6 P) (.node (boot_o_10 P) (.node (ob18 P) (.node (ob34 P) (.node (ob66 P) (.node (ob130 P) .nil .nil) .nil) (.node (ob98 P) (.node (ob162 P) .nil .nil) .nil)) (.node (ob50 P) (.node (ob82 P) (.node (ob146 P) .nil .nil) .nil) (.node (ob114 P) .nil .nil))) (.node (ob26 P) (.node (ob42 P) (.node (ob74 P) (.node (ob138 P) .nil .nil) .nil) (.node (ob106 P) (.node (ob170 P) .nil .nil) .nil)) (.node (ob58 P) (.node (ob90 P) (.node (ob154 P) .nil .nil) .nil) (.node (ob122 P) .nil .nil)))) (.node (ob14 P) (.node (ob22 P) (.node (ob38 P) (.node (ob70 P) (.node (ob134 P) .nil .nil) .nil) (.node (ob102 P) (.node (ob166 P) .nil .nil) .nil)) (.node (ob54 P) (.node (ob86 P) (.node (ob150 P) .nil .nil) .nil) (.node (ob118 P) .nil .nil))) (.node (ob30 P) (.node (ob46 P) (.node (ob78 P) (.node (ob142 P) .nil .nil) .nil) (.node (ob110 P) .nil .nil)) (.node (ob62 P) (.node (ob94 P) (.node (ob158 P) .nil .nil) .nil) (.node (ob126 P) .nil .nil)))))))
noncomputable def tr6 (P : Params) : BT := (.node (boot_o_0 P) (.node (boot_o_1 P) (.node (ob3v6 P) (.node (boot_o_7 P) (.node (ob15 P) (.node (ob31 P) (.node (ob63 P) (.node (ob127 P) (.node (ob255 P) .nil .nil) .nil) (.node (ob191 P) .nil .nil)) (.node (ob95 P) (.node (ob159 P) .nil .nil) (.node (ob223 P) .nil .nil))) (.node (ob47 P) (.node (ob79 P) (.node (ob143 P) .nil .nil) (.node (ob207 P) .nil .nil)) (.node (ob111 P) (.node (ob175 P) .nil .nil) (.node (ob239 P) .nil .nil)))) (.node (ob23 P) (.node (ob39 P) (.node (ob71 P) (.node (ob135 P) .nil .nil) (.node (ob199 P) .nil .nil)) (.node (ob103 P) (.node (ob167 P) .nil .nil) (.node (ob231 P) .nil .nil))) (.node (ob55 P) (.node (ob87 P) (.node (ob151 P) .nil .nil) (.node (ob215 P) .nil .nil)) (.node (ob119 P) (.node (ob183 P) .nil .nil) (.node (ob247 P) .nil .nil))))) (.node (ob11 P) (.node (ob19 P) (.node (ob35 P) (.node (ob67 P) (.node (ob131 P) .nil .nil) (.node (ob195 P) .nil .nil)) (.node (ob99 P) (.node (ob163 P) .nil .nil) (.node (ob227 P) .nil .nil))) (.node (ob51 P) (.node (ob83 P) (.node (ob147 P) .nil .nil) (.node (ob211 P) .nil .nil)) (.node (ob115 P) (.node (ob179 P) .nil .nil) (.node (ob243 P) .nil .nil)))) (.node (ob27 P) (.node (ob43 P) (.node (ob75 P) (.node (ob139 P) .nil .nil) (.node (ob203 P) .nil .nil)) (.node (ob107 P) (.node (ob171 P) .nil .nil) (.node (ob235 P) .nil .nil))) (.node (ob59 P) (.node (ob91 P) (.node (ob155 P) .nil .nil) (.node (ob219 P) .nil .nil)) (.node (ob123 P) (.node (ob187 P) .nil .nil) (.node (ob251 P) .nil .nil)))))) (.node (boot_o_5 P) (.node (boot_o_9 P) (.node (ob17 P) (.node (ob33 P) (.node (ob65 P) (.node (ob129 P) .nil .nil) (.node (ob193 P) .nil .nil)) (.node (ob97 P) (.node (ob161 P) .nil .nil) (.node (ob225 P) .nil .nil))) (.node (ob49 P) (.node (ob81 P) (.node (ob145 P) .nil .nil) (.node (ob209 P) .nil .nil)) (.node (ob113 P) (.node (ob177 P) .nil .nil) (.node (ob241 P) .nil .nil)))) (.node (ob25 P) (.node (ob41 P) (.node (ob73 P) (.node (ob137 P) .nil .nil) (.node (ob201 P) .nil .nil)) (.node (ob105 P) (.node (ob169 P) .nil .nil) (.node (ob233 P) .nil .nil))) (.node (ob57 P) (.node (ob89 P) (.node (ob153 P) .nil .nil) (.node (ob217 P) .nil .nil)) (.node (ob121 P) (.node (ob185 P) .nil .nil) (.node (ob249 P) .nil .nil))))) (.node (ob13 P) (.node (ob21 P) (.node (ob37 P) (.node (ob69 P) (.node (ob133 P) .nil .nil) (.node (ob197 P) .nil .nil)) (.node (ob101 P) (.node (ob165 P) .nil .nil) (.node (ob229 P) .nil .nil))) (.node (ob53 P) (.node (ob85 P) (.node (ob149 P) .nil .nil) (.node (ob213 P) .nil .nil)) (.node (ob117 P) (.node (ob181 P) .nil .nil) (.node (ob245 P) .nil .nil)))) (.node (ob29 P) (.node (ob45 P) (.node (ob77 P) (.node (ob141 P) .nil .nil) (.node (ob205 P) .nil .nil)) (.node (ob109 P) (.node (ob173 P) .nil .nil) (.node (ob237 P) .nil .nil))) (.node (ob61 P) (.node (ob93 P) (.node (ob157 P) .nil .nil) (.node (ob221 P) .nil .nil)) (.node (ob125 P) (.node (ob189 P) .nil .nil) (.node (ob253 P) .nil .nil))))))) (.node (boot_o_2 P) (.node (boot_o_4 P) (.node (boot_o_8 P) (.node (ob16 P) (.node (ob32 P) (.node (ob64 P) (.node (ob128 P) (.node (ob256 P) .nil .nil) .nil) (.node (ob192 P) .nil .nil)) (.node (ob96 P) (.node (ob160 P) .nil .nil) (.node (ob224 P) .nil .nil))) (.node (ob48 P) (.node (ob80 P) (.node (ob144 P) .nil .nil) (.node (ob208 P) .nil .nil)) (.node (ob112 P) (.node (ob176 P) .nil .nil) (.node (ob240 P) .nil .nil)))) (.node (ob24 P) (.node (ob40 P) (.node (ob72 P) (.node (ob136 P) .nil .nil) (.node (ob200 P) .nil .nil)) (.node (ob104 P) (.node (ob168 P) .nil .nil) (.node (ob232 P) .nil .nil))) (.node (ob56 P) (.node (ob88 P) (.node (ob152 P) .nil .nil) (.node (ob216 P) .nil .nil)) (.node (ob120 P) (.node (ob184 P) .nil .nil) (.node (ob248 P) .nil .nil))))) (.node (ob12v6 P) (.node (ob20 P) (.node (ob36 P) (.node (ob68 P) (.node (ob132 P) .nil .nil) (.node (ob196 P) .nil .nil)) (.node (ob100 P) (.node (ob164 P) .nil .nil) (.node (ob228 P) .nil .nil))) (.node (ob52 P) (.node (ob84 P) (.node (ob148 P) .nil .nil) (.node (ob212 P) .nil .nil)) (.node (ob116 P) (.node (ob180 P) .nil .nil) (.node (ob244 P) .nil .nil)))) (.node (ob28 P) (.node (ob44 P) (.node (ob76 P) (.node (ob140 P) .nil .nil) (.node (ob204 P) .nil .nil)) (.node (ob108 P) (.node (ob172 P) .nil .nil) (.node (ob236 P) .nil .nil))) (.node (ob60 P) (.node (ob92 P) (.node (ob156 P) .nil .nil) (.node (ob220 P) .nil .nil)) (.node (ob124 P) (.node (ob188 P) .nil .nil) (.node (ob252 P) .nil .nil)))))) (.node (boot_o_6 P) (.node (boot_o_10 P) (.node (ob18 P) (.node (ob34 P) (.node (ob66 P) (.node (ob130 P) .nil .nil) (.node (ob194 P) .nil .nil)) (.node (ob98 P) (.node (ob162 P) .nil .nil) (.node (ob226 P) .nil .nil))) (.node (ob50 P) (.node (ob82 P) (.node (ob146 P) .nil .nil) (.node (ob210 P) .nil .nil)) (.node (ob114 P) (.node (ob178 P) .nil .nil) (.node (ob242 P) .nil .nil)))) (.node (ob26 P) (.node (ob42 P) (.node (ob74 P) (.node (ob138 P) .nil .nil) (.node (ob202 P) .nil .nil)) (.node (ob106 P) (.node (ob170 P) .nil .nil) (.node (ob234 P) .nil .nil))) (.node (ob58 P) (.node (ob90 P) (.node (ob154 P) .nil .nil) (.node (ob218 P) .nil .nil)) (.node (ob122 P) (.node (ob186 P) .nil .nil) (.node (ob250 P) .nil .nil))))) (.node (ob14 P) (.node (ob22 P) (.node (ob38 P) (.node (ob70 P) (.node (ob134 P) .nil .nil) (.node (ob198 P) .nil .nil)) (.node (ob102 P) (.node (ob166 P) .nil .nil) (.node (ob230 P) .nil .nil))) (.node (ob54 P) (.node (ob86 P) (.node (ob150 P) .nil .nil) (.node (ob214 P) .nil .nil)) (.node (ob118 P) (.node (ob182 P) .nil .nil) (.node (ob246 P) .nil .nil)))) (.node (ob30 P) (.node (ob46 P) (.node (ob78 P) (.node (ob142 P) .nil .nil) (.node (ob206 P) .nil .nil)) (.node (ob110 P) (.node (ob174 P) .nil .nil) (.node (ob238 P) .nil .nil))) (.node (ob62 P) (.node (ob94 P) (.node (ob158 P) .nil .nil) (.node (ob222 P) .nil .nil)) (.node (ob126 P) (.node (ob190 P) .nil .nil) (.node (ob254 P) .nil .nil))))))))
noncomputable def tr7 (P : Params) : BT := (.node (boot_o_0 P) (.node (boot_o_1 P) (.node (ob3v7 P) (.node (boot_o_7 P) (.node (ob15 P) (.node (ob31 P) (.node (ob63 P) (.node (ob127 P) (.node (ob255 P) .nil .nil) .nil) (.node (ob191 P) .nil .nil)) (.node (ob95 P) (.node (ob159 P) (.node (ob287 P) .nil .nil) .nil) (.node (ob223 P) .nil .nil))) (.node (ob47 P) (.node (ob79 P) (.node (ob143 P) (.node (ob271 P) .nil .nil) .nil) (.node (ob207 P) .nil .nil)) (.node (ob111 P) (.node (ob175 P) (.node (ob303 P) .nil .nil) .nil) (.node (ob239 P) .nil .nil)))) (.node (ob23 P) (.node (ob39 P) (.node (ob71 P) (.node (ob135 P) (.node (ob263 P) .nil .nil) .nil) (.node (ob199 P) .nil .nil)) (.node (ob103 P) (.node (ob167 P) (.node (ob295 P) .nil .nil) .nil) (.node (ob231 P) .nil .nil))) (.node (ob55 P) (.node (ob87 P) (.node (ob151 P) (.node (ob279 P) .nil .nil) .nil) (.node (ob215 P) .nil .nil)) (.node (ob119 P) (.node (ob183 P) .nil .nil) (.node (ob247 P) .nil .nil))))) (.node (ob11 P) (.node (ob19 P) (.node (ob35 P) (.node (ob67 P) (.node (ob131 P) (.node (ob259 P) .nil .nil) .nil) (.node (ob195 P) .nil .nil)) (.node (ob99 P) (.node (ob163 P) (.node (ob291 P) .nil .nil) .nil) (.node (ob227 P) .nil .nil))) (.node (ob51 P) (.node (ob83 P) (.node (ob147 P) (.node (ob275 P) .nil .nil) .nil) (.node (ob211 P) .nil .nil)) (.node (ob115 P) (.node (ob179 P) .nil .nil) (.node (ob243 P) .nil .nil)))) (.node (ob27 P) (.node (ob43 P) (.node (ob75 P) (.node (ob139 P) (.node (ob267 P) .nil .nil) .nil) (.node (ob203 P) .nil .nil)) (.node (ob107 P) (.node (ob171 P) (.node (ob299 P) .nil .nil) .nil) (.node (ob235 P) .nil .nil))) (.node (ob59 P) (.node (ob91 P) (.node (ob155 P) (.node (ob283 P) .nil .nil) .nil) (.node (ob219 P) .nil .nil)) (.node (ob123 P) (.node (ob187 P) .nil .nil) (.node (ob251 P) .nil .nil)))))) (.node (boot_o_5 P) (.node (boot_o_9 P) (.node (ob17 P) (.node (ob33 P) (.node (ob65 P) (.node (ob129 P) (.node (ob257 P) .nil .nil) .nil) (.node (ob193 P) .nil .nil)) (.node (ob97 P) (.node (ob161 P) (.node (ob289 P) .nil .nil) .nil) (.node (ob225 P) .nil .nil))) (.node (ob49 P) (.node (ob81 P) (.node (ob145 P) (.node (ob273 P) .nil .nil) .nil) (.node (ob209 P) .nil .nil)) (.node (ob113 P) (.node (ob177 P) .nil .nil) (.node (ob241 P) .nil .nil)))) (.node (ob25 P) (.node (ob41 P) (.node (ob73 P) (.node (ob137 P) (.node (ob265 P) .nil .nil) .nil) (.node (ob201 P) .nil .nil)) (.node (ob105 P) (.node (ob169 P) (.node (ob297 P) .nil .nil) .nil) (.node (ob233 P) .nil .nil))) (.node (ob57 P) (.node (ob89 P) (.node (ob153 P) (.node (ob281 P) .nil .nil) .nil) (.node (ob217 P) .nil .nil)) (.node (ob121 P) (.node (ob185 P) .nil .nil) (.node (ob249 P) .nil .nil))))) (.node (ob13 P) (.node (ob21 P) (.node (ob37 P) (.node (ob69 P) (.node (ob133 P) (.node (ob261 P) .nil .nil) .nil) (.node (ob197 P) .nil .nil)) (.node (ob101 P) (.node (ob165 P) (.node (ob293 P) .nil .nil) .nil) (.node (ob229 P) .nil .nil))) (.node (ob53 P) (.node (ob85 P) (.node (ob149 P) (.node (ob277 P) .nil .nil) .nil) (.node (ob213 P) .nil .nil)) (.node (ob117 P) (.node (ob181 P) .nil .nil) (.node (ob245 P) .nil .nil)))) (.node (ob29 P) (.node (ob45 P) (.node (ob77 P) (.node (ob141 P) (.node (ob269 P) .nil .nil) .nil) (.node (ob205 P) .nil .nil)) (.node (ob109 P) (.node (ob173 P) (.node (ob301 P) .nil .nil) .nil) (.node (ob237 P) .nil .nil))) (.node (ob61 P) (.node (ob93 P) (.node (ob157 P) (.node (ob285 P) .nil .nil) .nil) (.node (ob221 P) .nil .nil)) (.node (ob125 P) (.node (ob189 P) .nil .nil) (.node (ob253 P) .nil .nil))))))) (.node (boot_o_2 P) (.node (boot_o_4 P) (.node (boot_o_8 P) (.node (ob16 P) (.node (ob32 P) (.node (ob64 P) (.node (ob128 P) (.node (ob256 P) .nil .nil) .nil) (.node (ob192 P) .nil .nil)) (.node (ob96 P) (.node (ob160 P) (.node (ob288 P) .nil .nil) .nil) (.node (ob224 P) .nil .nil))) (.node (ob48 P) (.node (ob80 P) (.node (ob144 P) (.node (ob272 P) .nil .nil) .nil) (.node (ob208 P) .nil .nil)) (.node (ob112 P) (.node (ob176 P) .nil .nil) (.node (ob240 P) .nil .nil)))) (.node (ob24 P) (.node (ob40 P) (.node (ob72 P) (.node (ob136 P) (.node (ob264 P) .nil .nil) .nil) (.node (ob200 P) .nil .nil)) (.node (ob104 P) (.node (ob168 P) (.node (ob296 P) .nil .nil) .nil) (.node (ob232 P) .nil .nil))) (.node (ob56 P) (.node (ob88 P) (.node (ob152 P) (.node (ob280 P) .nil .nil) .nil) (.node (ob216 P) .nil .nil)) (.node (ob120 P) (.node (ob184 P) .nil .nil) (.node (ob248 P) .nil .nil))))) (.node (ob12v7 P) (.node (ob20 P) (.node (ob36 P) (.node (ob68 P) (.node (ob132 P) (.node (ob260 P) .nil .nil) .nil) (.node (ob196 P) .nil .nil)) (.node (ob100 P) (.node (ob164 P) (.node (ob292 P) .nil .nil) .nil) (.node (ob228 P) .nil .nil))) (.node (ob52 P) (.node (ob84 P) (.node (ob148 P) (.node (ob276 P) .nil .nil) .nil) (.node (ob212 P) .nil .nil)) (.node (ob116 P) (.node (ob180 P) .nil .nil) (.node (ob244 P) .nil .nil)))) (.node (ob28 P) (.node (ob44 P) (.node (ob76 P) (.node (ob140 P) (.node (ob268 P) .nil .nil) .nil) (.node (ob204 P) .nil .nil)) (.node (ob108 P) (.node (ob172 P) (.node (ob300 P) .nil .nil) .nil) (.node (ob236 P) .nil .nil))) (.node (ob60 P) (.node (ob92 P) (.node (ob156 P) (.node (ob284 P) .nil .nil) .nil) (.node (ob220 P) .nil .nil)) (.node (ob124 P) (.node (ob188 P) .nil .nil) (.node (ob252 P) .nil .nil)))))) (.node (boot_o_6 P) (.node (boot_o_10 P) (.node (ob18 P) (.node (ob34 P) (.node (ob66 P) (.node (ob130 P) (.node (ob258 P) .nil .nil) .nil) (.node (ob194 P) .nil .nil)) (.node (ob98 P) (.node (ob162 P) (.node (ob290 P) .nil .nil) .nil) (.node (ob226 P) .nil .nil))) (.node (ob50 P) (.node (ob82 P) (.node (ob146 P) (.node (ob274 P) .nil .nil) .nil) (.node (ob210 P) .nil .nil)) (.node (ob114 P) (.node (ob178 P) .nil .nil) (.node (ob242 P) .nil .nil)))) (.node (ob26 P) (.node (ob42 P) (.node (ob74 P) (.node (ob138 P) (.node (ob266 P) .nil .nil) .nil) (.node (ob202 P) .nil .nil)) (.node (ob106 P) (.node (ob170 P) (.node (ob298 P) .nil .nil) .nil) (.node (ob234 P) .nil .nil))) (.node (ob58 P) (.node (ob90 P) (.node (ob154 P) (.node (ob282 P) .nil .nil) .nil) (.node (ob218 P) .nil .nil)) (.node (ob122 P) (.node (ob186 P) .nil .nil) (.node (ob250 P) .nil .nil))))) (.node (ob14 P) (.node (ob22 P) (.node (ob38 P) (.node (ob70 P) (.node (ob134 P) (.node (ob262 P) .nil .nil) .nil) (.node (ob198 P) .nil .nil)) (.node (ob102 P) (.node (ob166 P) (.node (ob294 P) .nil .nil) .nil) (.node (ob230 P) .nil .nil))) (.node (ob54 P) (.node (ob86 P) (.node (ob150 P) (.node (ob278 P) .nil .nil) .nil) (.node (ob214 P) .nil .nil)) (.node (ob118 P) (.node (ob182 P) .nil .nil) (.node (ob246 P) .nil .nil)))) (.node (ob30 P) (.node (ob46 P) (.node (ob78 P) (.node (ob142 P) (.node (ob270 P) .nil .nil) .nil) (.node (ob206 P) .nil .nil)) (.node (ob110 P) (.node (ob174 P) (.node (ob302 P) .nil .nil) .nil) (.node (ob238 P) .nil .nil))) (.node (ob62 P) (.node (ob94 P) (.node (ob158 P) (.node (ob286 P) .nil .nil) .nil) (.node (ob222 P) .nil .nil)) (.node (ob126 P) (.node (ob190 P) .nil .nil) (.node (ob254 P) .nil .nil))))))))
noncomputable def tr8 (P : Params) : BT := (.node (boot_o_0 P) (.node (boot_o_1 P) (.node (ob3 P) (.node (boot_o_7 P) (.node (ob15 P) (.node (ob31 P) (.node (ob63 P) (.node (ob127 P) (.node (ob255 P) .nil .nil) .nil) (.node (ob191 P) (.node (ob319 P) .nil .nil) .nil)) (.node (ob95 P) (.node (ob159 P) (.node (ob287 P) .nil .nil) .nil) (.node (ob223 P) .nil .nil))) (.node (ob47 P) (.node (ob79 P) (.node (ob143 P) (.node (ob271 P) .nil .nil) .nil) (.node (ob207 P) (.node (ob335 P) .nil .nil) .nil)) (.node (ob111 P) (.node (ob175 P) (.node (ob303 P) .nil .nil) .nil) (.node (ob239 P) .nil .nil)))) (.node (ob23 P) (.node (ob39 P) (.node (ob71 P) (.node (ob135 P) (.node (ob263 P) .nil .nil) .nil) (.node (ob199 P) (.node (ob327 P) .nil .nil) .nil)) (.node (ob103 P) (.node (ob167 P) (.node (ob295 P) .nil .nil) .nil) (.node (ob231 P) .nil .nil))) (.node (ob55 P) (.node (ob87 P) (.node (ob151 P) (.node (ob279 P) .nil .nil) .nil) (.node (ob215 P) .nil .nil)) (.node (ob119 P) (.node (ob183 P) (.node (ob311 P) .nil .nil) .nil) (.node (ob247 P) .nil .nil))))) (.node (ob11 P) (.node (ob19 P) (.node (ob35 P) (.node (ob67 P) (.node (ob131 P) (.node (ob259 P) .nil .nil) .nil) (.node (ob195 P) (.node (ob323 P) .nil .nil) .nil)) (.node (ob99 P) (.node (ob163 P) (.node (ob291 P) .nil .nil) .nil) (.node (ob227 P) .nil .nil))) (.node (ob51 P) (.node (ob83 P) (.node (ob147 P) (.node (ob275 P) .nil .nil) .nil) (.node (ob211 P) (.node (ob339 P) .nil .nil) .nil)) (.node (ob115 P) (.node (ob179 P) (.node (ob307 P) .nil .nil) .nil) (.node (ob243 P) .nil .nil)))) (.node (ob27 P) (.node (ob43 P) (.node (ob75 P) (.node (ob139 P) (.node (ob267 P) .nil .nil) .nil) (.node (ob203 P) (.node (ob331 P) .nil .nil) .nil)) (.node (ob107 P) (.node (ob171 P) (.node (ob299 P) .nil .nil) .nil) (.node (ob235 P) .nil .nil))) (.node (ob59 P) (.node (ob91 P) (.node (ob155 P) (.node (ob283 P) .nil .nil) .nil) (.node (ob219 P) .nil .nil)) (.node (ob123 P) (.node (ob187 P) (.node (ob315 P) .nil .nil) .nil) (.node (ob251 P) .nil .nil)))))) (.node (boot_o_5 P) (.node (boot_o_9 P) (.node (ob17 P) (.node (ob33 P) (.node (ob65 P) (.node (ob129 P) (.node (ob257 P) .nil .nil) .nil) (.node (ob193 P) (.node (ob321 P) .nil .nil) .nil)) (.node (ob97 P) (.node (ob161 P) (.node (ob289 P) .nil .nil) .nil) (.node (ob225 P) .nil .nil))) (.node (ob49 P) (.node (ob81 P) (.node (ob145 P) (.node (ob273 P) .nil .nil) .nil) (.node (ob209 P) (.node (ob337 P) .nil .nil) .nil)) (.node (ob113 P) (.node (ob177 P) (.node (ob305 P) .nil .nil) .nil) (.node (ob241 P) .nil .nil)))) (.node (ob25 P) (.node (ob41 P) (.node (ob73 P) (.node (ob137 P) (.node (ob265 P) .nil .nil) .nil) (.node (ob201 P) (.node (ob329 P) .nil .nil) .nil)) (.node (ob105 P) (.node (ob169 P) (.node (ob297 P) .nil .nil) .nil) (.node (ob233 P) .nil .nil))) (.node (ob57 P) (.node (ob89 P) (.node (ob153 P) (.node (ob281 P) .nil .nil) .nil) (.node (ob217 P) .nil .nil)) (.node (ob121 P) (.node (ob185 P) (.node (ob313 P) .nil .nil) .nil) (.node (ob249 P) .nil .nil))))) (.node (ob13 P) (.node (ob21 P) (.node (ob37 P) (.node (ob69 P) (.node (ob133 P) (.node (ob261 P) .nil .nil) .nil) (.node (ob197 P) (.node (ob325 P) .nil .nil) .nil)) (.node (ob101 P) (.node (ob165 P) (.node (ob293 P) .nil .nil) .nil) (.node (ob229 P) .nil .nil))) (.node (ob53 P) (.node (ob85 P) (.node (ob149 P) (.node (ob277 P) .nil .nil) .nil) (.node (ob213 P) .nil .nil)) (.node (ob117 P) (.node (ob181 P) (.node (ob309 P) .nil .nil) .nil) (.node (ob245 P) .nil .nil)))) (.node (ob29 P) (.node (ob45 P) (.node (ob77 P) (.node (ob141 P) (.node (ob269 P) .nil .nil) .nil) (.node (ob205 P) (.node (ob333 P) .nil .nil) .nil)) (.node (ob109 P) (.node (ob173 P) (.node (ob301 P) .nil .nil) .nil) (.node (ob237 P) .nil .nil))) (.node (ob61 P) (.node (ob93 P) (.node (ob157 P) (.node (ob285 P) .nil .nil) .nil) (.node (ob221 P) .nil .nil)) (.node (ob125 P) (.node (ob189 P) (.node (ob317 P) .nil .nil) .nil) (.node (ob253 P) .nil .nil))))))) (.node (boot_o_2 P) (.node (boot_o_4 P) (.node (boot_o_8 P) (.node (ob16 P) (.node (ob32 P) (.node (ob64 P) (.node (ob128 P) (.node (ob256 P) .nil .nil) .nil) (.node (ob192 P) (.node (ob320 P) .nil .nil) .nil)) (.node (ob96 P) (.node (ob160 P) (.node (ob288 P) .nil .nil) .nil) (.node (ob224 P) .nil .nil))) (.node (ob48 P) (.node (ob80 P) (.node (ob144 P) (.node (ob272 P) .nil .nil) .nil) (.node (ob208 P) (.node (ob336 P) .nil .nil) .nil)) (.node (ob112 P) (.node (ob176 P) (.node (ob304 P) .nil .nil) .nil) (.node (ob240 P) .nil .nil)))) (.node (ob24 P) (.node (ob40 P) (.node (ob72 P) (.node (ob136 P) (.node (ob264 P) .nil .nil) .nil) (.node (ob200 P) (.node (ob328 P) .nil .nil) .nil)) (.node (ob104 P) (.node (ob168 P) (.node (ob296 P) .nil .nil) .nil) (.node (ob232 P) .nil .nil))) (.node (ob56 P) (.node (ob88 P) (.node (ob152 P) (.node (ob280 P) .nil .nil) .nil) (.node (ob216 P) .nil .nil)) (.node (ob120 P) (.node (ob184 P) (.node (ob312 P) .nil .nil) .nil) (.node (ob248 P) .nil .nil))))) (.node (ob12 P) (.node (ob20 P) (.node (ob36 P) (.node (ob68 P) (.node (ob132 P) (.node (ob260 P) .nil .nil) .nil) (.node (ob196 P) (.node (ob324 P) .nil .nil) .nil)) (.node (ob100 P) (.node (ob164 P) (.node (ob292 P) .nil .nil) .nil) (.node (ob228 P) .nil .nil))) (.node (ob52 P) (.node (ob84 P) (.node (ob148 P) (.node (ob276 P) .nil .nil) .nil) (.node (ob212 P) .nil .nil)) (.node (ob116 P) (.node (ob180 P) (.node (ob308 P) .nil .nil) .nil) (.node (ob244 P) .nil .nil)))) (.node (ob28 P) (.node (ob44 P) (.node (ob76 P) (.node (ob140 P) (.node (ob268 P) .nil .nil) .nil) (.node (ob204 P) (.node (ob332 P) .nil .nil) .nil)) (.node (ob108 P) (.node (ob172 P) (.node (ob300 P) .nil .nil) .nil) (.node (ob236 P) .nil .nil))) (.node (ob60 P) (.node (ob92 P) (.node (ob156 P) (.node (ob284 P) .nil .nil) .nil) (.node (ob220 P) .nil .nil)) (.node (ob124 P) (.node (ob188 P) (.node (ob316 P) .nil .nil) .nil) (.node (ob252 P) .nil .nil)))))) (.node (boot_o_6 P) (.node (boot_o_10 P) (.node (ob18 P) (.node (ob34 P) (.node (ob66 P) (.node (ob130 P) (.node (ob258 P) .nil .nil) .nil) (.node (ob194 P) (.node (ob322 P) .nil .nil) .nil)) (.node (ob98 P) (.node (ob162 P) (.node (ob290 P) .nil .nil) .nil) (.node (ob226 P) .nil .nil))) (.node (ob50 P) (.node (ob82 P) (.node (ob146 P) (.node (ob274 P) .nil .nil) .nil) (.node (ob210 P) (.node (ob338 P) .nil .nil) .nil)) (.node (ob114 P) (.node (ob178 P) (.node (ob306 P) .nil .nil) .nil) (.node (ob242 P) .nil .nil)))) (.node (ob26 P) (.node (ob42 P) (.node (ob74 P) (.node (ob138 P) (.node (ob266 P) .nil .nil) .nil) (.node (ob202 P) (.node (ob330 P) .nil .nil) .nil)) (.node (ob106 P) (.node (ob170 P) (.node (ob298 P) .nil .nil) .nil) (.node (ob234 P) .nil .nil))) (.node (ob58 P) (.node (ob90 P) (.node (ob154 P) (.node (ob282 P) .nil .nil) .nil) (.node (ob218 P) .nil .nil)) (.node (ob122 P) (.node (ob186 P) (.node (ob314 P) .nil .nil) .nil) (.node (ob250 P) .nil .nil))))) (.node (ob14 P) (.node (ob22 P) (.node (ob38 P) (.node (ob70 P) (.node (ob134 P) (.node (ob262 P) .nil .nil) .nil) (.node (ob198 P) (.node (ob326 P) .nil .nil) .nil)) (.node (ob102 P) (.node (ob166 P) (.node (ob294 P) .nil .nil) .nil) (.node (ob230 P) .nil .nil))) (.node (ob54 P) (.node (ob86 P) (.node (ob150 P) (.node (ob278 P) .nil .nil) .nil) (.node (ob214 P) .nil .nil)) (.node (ob118 P) (.node (ob182 P) (.node (ob310 P) .nil .nil) .nil) (.node (ob246 P) .nil .nil)))) (.node (ob30 P) (.node (ob46 P) (.node (ob78 P) (.node (ob142 P) (.node (ob270 P) .nil .nil) .nil) (.node (ob206 P) (.node (ob334 P) .nil .nil) .nil)) (.node (ob110 P) (.node (ob174 P) (.node (ob302 P) .nil .nil) .nil) (.node (ob238 P) .nil .nil))) (.node (ob62 P) (.node (ob94 P) (.node (ob158 P) (.node (ob286 P) .nil .nil) .nil) (.node (ob222 P) .nil .nil)) (.node (ob126 P) (.node (ob190 P) (.node (ob318 P) .nil .nil) .nil) (.node (ob254 P) .nil .nil))))))))
noncomputable abbrev bR : List Stmt := behindTheImports pR
noncomputable def st1 : List Stmt := (bR.drop 0).take 6
noncomputable def st2 : List Stmt := (bR.drop 6).take 5
noncomputable def st3 : List Stmt := (bR.drop 11).take 10
noncomputable def st4 : List Stmt := (bR.drop 21).take 1
noncomputable def st5 : List Stmt := (bR.drop 22).take 1
noncomputable def st6 : List Stmt := (bR.drop 23).take 1
noncomputable def st7 : List Stmt := (bR.drop 24).take 23
noncomputable def st8 : List Stmt := (bR.drop 47).take 7
noncomputable def eR : Env := { scope := pR.main.scope, locals := mainNs, globals := mainNs, cells := [], code := (.ref 13), frame := some 14 }
noncomputable abbrev cR : Code := .body bR eR
noncomputable abbrev fR : List Frame := [topFrame ⟨0, 0, 0, 0⟩]
theorem pcA (w : World) (os : OsState) : topGo treeTable pR w 11 (some (.ref 6)) 12 ⟨boot_heap w.params, #[], boot_drawn, boot_toks, os⟩ (topStub pR) = some (⟨heA w.params, #[], {}, 187, os⟩, ⟨denote treeTable cR, cR, ⟨0, 0, 0, 0⟩, fR⟩) := by
  rw [PySem.W.Fast.te15667345088766844465, PySem.W.Fast.te11892475500146522536, PySem.W.Fast.te14364793385576792824]
  kernel_rfl
theorem pcB (w : World) (os : OsState) : segRun treeTable pR w 11 (some (.ref 6)) 1 1 ⟨heA w.params, #[], {}, 187, os⟩ (blockOf bR eR cR ⟨0, 0, 0, 0⟩ fR) = some (.next, (⟨trB w.params, 15, {}, #[], {}, 187, os⟩ : SharedT).abs, cR, ⟨0, 0, 0, 0⟩) := by
  rw [PySem.W.Fast.te14374325043358763698, PySem.W.Fast.te14364793385576792824]
  kernel_rfl
theorem pc1 (w : World) (os : OsState) : segRunT treeTable pR w 11 (some (.ref 6)) 1 297 ⟨trB w.params, 15, {}, #[], {}, 187, os⟩ (piecesOf st1 eR cR ⟨0, 0, 0, 0⟩ fR) = some (.next, ⟨tr1 w.params, 48, {}, #[], {}, 233, os⟩, cR, ⟨15, 0, 15, 8⟩) := by
  rw [PySem.W.Fast.te10110043849684766642, PySem.W.Fast.te14364793385576792824]
  kernel_rfl
theorem pc2 (w : World) (os : OsState) : segRunT treeTable pR w 11 (some (.ref 6)) 1 389 ⟨tr1 w.params, 48, {}, #[], {}, 233, os⟩ (piecesOf st2 eR cR ⟨15, 0, 15, 8⟩ fR) = some (.next, ⟨tr2 w.params, 95, {}, #[], {}, 295, os⟩, cR, ⟨51, 0, 51, 8⟩) := by
  rw [PySem.W.Fast.te10110043849684766642, PySem.W.Fast.te14364793385576792824]
  kernel_rfl
theorem pc3 (w : World) (os : OsState) : segRunT treeTable pR w 11 (some (.ref 6)) 1 242 ⟨tr2 w.params, 95, {}, #[], {}, 295, os⟩ (piecesOf st3 eR cR ⟨51, 0, 51, 8⟩ fR) = some (.next, ⟨tr3 w.params, 137, {}, #[], {}, 368, os⟩, cR, ⟨135, 0, 135, 10⟩) := by
  rw [PySem.W.Fast.te10110043849684766642, PySem.W.Fast.te14364793385576792824]
  kernel_rfl
theorem pc4 (w : World) (os : OsState) : segRunT treeTable pR w 11 (some (.ref 6)) 1 264 ⟨tr3 w.params, 137, {}, #[], {}, 368, os⟩ (piecesOf st4 eR cR ⟨135, 0, 135, 10⟩ fR) = some (.next, ⟨tr4 w.params, 161, {}, #[], {}, 405, os⟩, cR, ⟨136, 0, 142, 28⟩) := by
  rw [PySem.W.Fast.te10110043849684766642, PySem.W.Fast.te14364793385576792824]
  kernel_rfl
theorem pc5 (w : World) (os : OsState) : segRunT treeTable pR w 11 (some (.ref 6)) 1 187 ⟨tr4 w.params, 161, {}, #[], {}, 405, os⟩ (piecesOf st5 eR cR ⟨136, 0, 142, 28⟩ fR) = some (.next, ⟨tr5 w.params, 174, {}, #[], {}, 423, os⟩, cR, ⟨143, 0, 144, 8⟩) := by
  rw [PySem.W.Fast.te10110043849684766642, PySem.W.Fast.te14364793385576792824]
  kernel_rfl
theorem pc6 (w : World) (os : OsState) : segRunT treeTable pR w 11 (some (.ref 6)) 1 528 ⟨tr5 w.params, 174, {}, #[], {}, 423, os⟩ (piecesOf st6 eR cR ⟨143, 0, 144, 8⟩ fR) = some (.next, ⟨tr6 w.params, 257, {}, #[], {}, 542, os⟩, cR, ⟨145, 0, 250, 16⟩) := by
  rw [PySem.W.Fast.te10110043849684766642, PySem.W.Fast.te14364793385576792824]
  kernel_rfl
theorem pc7 (w : World) (os : OsState) : segRunT treeTable pR w 11 (some (.ref 6)) 1 400 ⟨tr6 w.params, 257, {}, #[], {}, 542, os⟩ (piecesOf st7 eR cR ⟨145, 0, 250, 16⟩ fR) = some (.next, ⟨tr7 w.params, 304, {}, #[], {}, 622, os⟩, cR, ⟨275, 0, 275, 15⟩) := by
  rw [PySem.W.Fast.te10110043849684766642, PySem.W.Fast.te14364793385576792824]
  kernel_rfl
theorem pc8 (w : World) (os : OsState) : segRunT treeTable pR w 11 (some (.ref 6)) 1 185 ⟨tr7 w.params, 304, {}, #[], {}, 622, os⟩ (piecesOf st8 eR cR ⟨275, 0, 275, 15⟩ fR) = some (.next, ⟨tr8 w.params, 340, {}, #[], {}, 673, os⟩, cR, ⟨355, 0, 357, 46⟩) := by
  rw [PySem.W.Fast.te10110043849684766642, PySem.W.Fast.te14364793385576792824]
  kernel_rfl
theorem pcF (w : World) (os : OsState) : topRun treeTable pR w 11 (some (.ref 6)) 2 (⟨tr8 w.params, 340, {}, #[], {}, 673, os⟩ : SharedT).abs ⟨doneF .next, cR, ⟨355, 0, 357, 46⟩, fR⟩ = some ⟨heF w.params, #[], {}, 673, os⟩ := by
  rw [PySem.W.Fast.te14082659384304107361, PySem.W.Fast.te14364793385576792824]
  kernel_rfl
theorem bR_split : bR = st1 ++ (st2 ++ (st3 ++ (st4 ++ (st5 ++ (st6 ++ (st7 ++ (st8 ++ (([] : List Stmt))))))))) := by kernel_rfl
theorem pcAll (w : World) (os : OsState) : topRun treeTable pR w 11 (some (.ref 6)) (12 + (1 + (297 + (389 + (242 + (264 + (187 + (528 + (400 + (185 + (2))))))))))) ⟨boot_heap w.params, #[], boot_drawn, boot_toks, os⟩ (topStub pR) = some ⟨heF w.params, #[], {}, 673, os⟩ := by
  refine go_top (pcA w os) (piece_block (pcB w os) ?_)
  rw [show restOf bR eR cR ⟨0, 0, 0, 0⟩ fR = restOf (st1 ++ (st2 ++ (st3 ++ (st4 ++ (st5 ++ (st6 ++ (st7 ++ (st8 ++ (([] : List Stmt)))))))))) eR cR ⟨0, 0, 0, 0⟩ fR from congrArg (fun l => restOf l eR cR ⟨0, 0, 0, 0⟩ fR) bR_split]
  exact piece_app (segRun_of (pc1 w os)) (piece_app (segRun_of (pc2 w os)) (piece_app (segRun_of (pc3 w os)) (piece_app (segRun_of (pc4 w os)) (piece_app (segRun_of (pc5 w os)) (piece_app (segRun_of (pc6 w os)) (piece_app (segRun_of (pc7 w os)) (piece_app (segRun_of (pc8 w os)) (pcF w os))))))))
theorem hdOpen : ∀ w : World, (fencedOpening treeTable pR w 5094).map (fun s => (s.heap, s.gens, s.drawn, s.toks)) = some (boot_heap w.params, Array.mk [], boot_drawn, boot_toks) :=
  boot_open (by kernel_rfl) (by decide) (fun s => by kernel_rfl)
theorem hdSize (w : World) : ((boot_heap w.params).isNs mainGlobals && (#[] : Array GenState).size == 0, (boot_heap w.params).objs.size, (boot_heap w.params).nsMap mainGlobals "__annotations__") = (true, 11, (some (.ref 6))) := by
  rw [PySem.W.Fast.te8920871248978507458]
  kernel_rfl
noncomputable def hd.view_39 : Program := view pR [0, 2, 4, 6, 7, 9, 11, 13, 14, 15, 16, 17, 19, 20, 21, 22, 23, 25, 26, 27, 28, 29, 30, 31, 32, 33, 34, 35, 36, 37, 38, 39, 40, 41, 42, 43, 44, 45, 46, 47, 49, 50, 51, 52, 53]
noncomputable abbrev loR : List Str := [(.ofString "_NodeInfo"), (.ofString "_filemode_table")]
theorem hdK (P : Params) : kAs = (hd.heap_39 P).map (·.1) := by kernel_rfl
noncomputable abbrev hkR : Hook := kHook hd.heap_39 kAs hdK
theorem hdLk1 (w : World) (os : OsState) : (staticsOk (importedModules pR.main.body) (boot_heap w.params) (heF w.params) && namesBound pR (heF w.params) && gensDone ⟨heF w.params, #[], {}, 673, os⟩ && laidKept (boot_heap w.params) (heF w.params)) = true := by
  kernel_rfl
theorem hdLk2 (w : World) (os : OsState) : openSeen hd.view_39 loR (importedModules pR.main.body) (fun s => xlAt hd.view_39 [] s && recOk (RowW.records PySem.Challenge.rw_pd0160_01.row.toRowW) s) true ⟨heF w.params, #[], {}, 673, os⟩ = openGood hd.view_39 loR := by
  rw [PySem.W.Fast.te4187177175401517315]
  kernel_rfl
theorem hdLk3 (w : World) (os : OsState) : hkR.obs ⟨heF w.params, #[], {}, 673, os⟩ = hkR.val w := by kernel_rfl
theorem hdLeft : LeftO pR hd.view_39 loR (fun s => xlAt hd.view_39 [] s && recOk (RowW.records PySem.Challenge.rw_pd0160_01.row.toRowW) s) hkR.obs hkR.val 5094 :=
  LeftO.of_pieces hdOpen hdSize pcAll (by rfl) fun w => by
    funext os
    rw [hdLk1 w os, hdLk2 w os, hdLk3 w os]
theorem hdSaid : PySem.Challenge.rw_pd0160_01.wellSaid = true := by
  rw [PySem.W.Fast.te9446332074065402090]
  kernel_rfl
noncomputable def hdD : DefRec := by
  refine' (?f : ∀ d : DefRec, defOf hd.view_39 PySem.Challenge.rw_pd0160_01.row.name = some (d, []) → DefRec) _ ?h
  case h => exact rfl
  case f => exact fun d _ => d
theorem hdDef : defOf hd.view_39 PySem.Challenge.rw_pd0160_01.row.name = some (hdD, []) := by kernel_rfl
theorem hdWit : PySem.Challenge.rw_pd0160_01.row.toRowW.promised := by w_witness2
theorem hd (walk : WalkO hd.view_39 loR (XL hd.view_39 []) hkR.says PySem.Challenge.rw_pd0160_01.row.toRowW hdD [] fun f vs => PySem.call f vs) : PySem.Challenge.rw_pd0160_01.Holds :=
  holds_law hdSaid fun said => holds_open (q := hd.view_39) (loose := loR) (Xt := fun s => xlAt hd.view_39 [] s && recOk (RowW.records PySem.Challenge.rw_pd0160_01.row.toRowW) s) (XP := XL hd.view_39 []) (Yf := hkR.obs) (Ya := hkR.val) (YP := hkR.says) (N := 5094)
    hdLeft hkR.of hkR.keeps (fun s e => xl_of s (Bool.and_eq_true_iff.mp e).1) XL.keeps hdDef (by kernel_rfl) (by rfl) (fun s e => recFacts_of (Bool.and_eq_true_iff.mp e).2) rfl said (by decide +kernel) ⟨rfl, rfl, rfl, rfl, rfl, by decide +kernel⟩ hdWit walk
theorem room0 {a M : Nat} (h : a + M < recursionLimit) : a < recursionLimit := Nat.lt_of_le_of_lt (Nat.le_add_right a M) h
theorem room1 {a M k : Nat} (h : a + M < recursionLimit) (hk : k ≤ M) : a + k < recursionLimit := Nat.lt_of_le_of_lt (Nat.add_le_add_left hk a) h
theorem room2 {a M j k : Nat} (h : a + M < recursionLimit) (hk : j + k ≤ M) : a + j + k < recursionLimit := Nat.add_assoc a j k ▸ room1 h hk
theorem room3 {a M i j k : Nat} (h : a + M < recursionLimit) (hk : i + j + k ≤ M) : a + i + j + k < recursionLimit := by rw [Nat.add_assoc a i j]; exact room2 h hk
theorem unit0 {a M : Nat} (h : a + M < PySem.cLine) : a < PySem.cLine := Nat.lt_of_le_of_lt (Nat.le_add_right a M) h
theorem unit1 {a M k : Nat} (h : a + M < PySem.cLine) (hk : k ≤ M) : a + k < PySem.cLine := Nat.lt_of_le_of_lt (Nat.add_le_add_left hk a) h
theorem unit2 {a M j k : Nat} (h : a + M < PySem.cLine) (hk : j + k ≤ M) : a + j + k < PySem.cLine := Nat.add_assoc a j k ▸ unit1 h hk
theorem unit3 {a M i j k : Nat} (h : a + M < PySem.cLine) (hk : i + j + k ≤ M) : a + i + j + k < PySem.cLine := by rw [Nat.add_assoc a i j]; exact unit2 h hk
theorem nl0 {a b : Nat} {p0 : Prop} (h : a < b ∧ p0) : a ≠ b := Nat.ne_of_lt h.1
theorem ng0 {a b : Nat} {p0 : Prop} (h : b < a ∧ p0) : a ≠ b := Nat.ne_of_gt h.1
theorem nl1 {a b : Nat} {p0 p1 : Prop} (h : p0 ∧ a < b ∧ p1) : a ≠ b := Nat.ne_of_lt h.2.1
theorem ng1 {a b : Nat} {p0 p1 : Prop} (h : p0 ∧ b < a ∧ p1) : a ≠ b := Nat.ne_of_gt h.2.1
theorem nl2 {a b : Nat} {p0 p1 p2 : Prop} (h : p0 ∧ p1 ∧ a < b ∧ p2) : a ≠ b := Nat.ne_of_lt h.2.2.1
theorem ng2 {a b : Nat} {p0 p1 p2 : Prop} (h : p0 ∧ p1 ∧ b < a ∧ p2) : a ≠ b := Nat.ne_of_gt h.2.2.1
theorem nl3 {a b : Nat} {p0 p1 p2 p3 : Prop} (h : p0 ∧ p1 ∧ p2 ∧ a < b ∧ p3) : a ≠ b := Nat.ne_of_lt h.2.2.2.1
theorem ng3 {a b : Nat} {p0 p1 p2 p3 : Prop} (h : p0 ∧ p1 ∧ p2 ∧ b < a ∧ p3) : a ≠ b := Nat.ne_of_gt h.2.2.2.1
theorem nl4 {a b : Nat} {p0 p1 p2 p3 p4 : Prop} (h : p0 ∧ p1 ∧ p2 ∧ p3 ∧ a < b ∧ p4) : a ≠ b := Nat.ne_of_lt h.2.2.2.2.1
theorem ng4 {a b : Nat} {p0 p1 p2 p3 p4 : Prop} (h : p0 ∧ p1 ∧ p2 ∧ p3 ∧ b < a ∧ p4) : a ≠ b := Nat.ne_of_gt h.2.2.2.2.1
theorem nl5 {a b : Nat} {p0 p1 p2 p3 p4 p5 : Prop} (h : p0 ∧ p1 ∧ p2 ∧ p3 ∧ p4 ∧ a < b ∧ p5) : a ≠ b := Nat.ne_of_lt h.2.2.2.2.2.1
theorem ng5 {a b : Nat} {p0 p1 p2 p3 p4 p5 : Prop} (h : p0 ∧ p1 ∧ p2 ∧ p3 ∧ p4 ∧ b < a ∧ p5) : a ≠ b := Nat.ne_of_gt h.2.2.2.2.2.1
theorem nl6 {a b : Nat} {p0 p1 p2 p3 p4 p5 p6 : Prop} (h : p0 ∧ p1 ∧ p2 ∧ p3 ∧ p4 ∧ p5 ∧ a < b ∧ p6) : a ≠ b := Nat.ne_of_lt h.2.2.2.2.2.2.1
theorem ng6 {a b : Nat} {p0 p1 p2 p3 p4 p5 p6 : Prop} (h : p0 ∧ p1 ∧ p2 ∧ p3 ∧ p4 ∧ p5 ∧ b < a ∧ p6) : a ≠ b := Nat.ne_of_gt h.2.2.2.2.2.2.1
theorem nl7 {a b : Nat} {p0 p1 p2 p3 p4 p5 p6 p7 : Prop} (h : p0 ∧ p1 ∧ p2 ∧ p3 ∧ p4 ∧ p5 ∧ p6 ∧ a < b ∧ p7) : a ≠ b := Nat.ne_of_lt h.2.2.2.2.2.2.2.1
theorem ng7 {a b : Nat} {p0 p1 p2 p3 p4 p5 p6 p7 : Prop} (h : p0 ∧ p1 ∧ p2 ∧ p3 ∧ p4 ∧ p5 ∧ p6 ∧ b < a ∧ p7) : a ≠ b := Nat.ne_of_gt h.2.2.2.2.2.2.2.1
theorem nl8 {a b : Nat} {p0 p1 p2 p3 p4 p5 p6 p7 p8 : Prop} (h : p0 ∧ p1 ∧ p2 ∧ p3 ∧ p4 ∧ p5 ∧ p6 ∧ p7 ∧ a < b ∧ p8) : a ≠ b := Nat.ne_of_lt h.2.2.2.2.2.2.2.2.1
theorem ng8 {a b : Nat} {p0 p1 p2 p3 p4 p5 p6 p7 p8 : Prop} (h : p0 ∧ p1 ∧ p2 ∧ p3 ∧ p4 ∧ p5 ∧ p6 ∧ p7 ∧ b < a ∧ p8) : a ≠ b := Nat.ne_of_gt h.2.2.2.2.2.2.2.2.1
theorem nl9 {a b : Nat} {p0 p1 p2 p3 p4 p5 p6 p7 p8 p9 : Prop} (h : p0 ∧ p1 ∧ p2 ∧ p3 ∧ p4 ∧ p5 ∧ p6 ∧ p7 ∧ p8 ∧ a < b ∧ p9) : a ≠ b := Nat.ne_of_lt h.2.2.2.2.2.2.2.2.2.1
theorem ng9 {a b : Nat} {p0 p1 p2 p3 p4 p5 p6 p7 p8 p9 : Prop} (h : p0 ∧ p1 ∧ p2 ∧ p3 ∧ p4 ∧ p5 ∧ p6 ∧ p7 ∧ p8 ∧ b < a ∧ p9) : a ≠ b := Nat.ne_of_gt h.2.2.2.2.2.2.2.2.2.1
theorem le_lit {a m n : Nat} (h : a ≤ m) (hk : m ≤ n) : a ≤ n := Nat.le_trans h hk
theorem lt_lit {a m n : Nat} (h : a < m) (hk : m ≤ n) : a < n := Nat.lt_of_lt_of_le h hk
theorem le_ltl {a m n : Nat} (h : a < m) (hk : m ≤ n + 1) : a ≤ n := Nat.le_of_lt_succ (Nat.lt_of_lt_of_le h hk)
theorem lt_lel {a m n : Nat} (h : a ≤ m) (hk : m < n) : a < n := Nat.lt_of_le_of_lt h hk
theorem add_lit {z x y p q n : Nat} (h : z = x + y) (hx : x ≤ p) (hy : y ≤ q) (hk : p + q ≤ n) : z ≤ n := h ▸ Nat.le_trans (Nat.add_le_add hx hy) hk
theorem sum_lit {x y p q n : Nat} (hx : x ≤ p) (hy : y ≤ q) (hk : p + q ≤ n) : x + y ≤ n := Nat.le_trans (Nat.add_le_add hx hy) hk
theorem suc_lit {x p k n : Nat} (hx : x ≤ p) (hk : p + k ≤ n) : x + k ≤ n := Nat.le_trans (Nat.add_le_add_right hx k) hk
theorem ile_lit {a m n : Int} (h : a ≤ m) (hk : m ≤ n) : a ≤ n := Int.le_trans h hk
theorem ilt_lit {a m n : Int} (h : a < m) (hk : m ≤ n) : a < n := Int.lt_of_lt_of_le h hk
theorem ige_lit {a m n : Int} (h : m ≤ a) (hk : n ≤ m) : n ≤ a := Int.le_trans hk h
end Mine
local macro_rules | `(tactic| walk_at $s:str) => `(tactic| k_extra $s)
local macro_rules | `(tactic| ktr_room) => `(tactic| k_extra "room")
local macro_rules | `(tactic| ktr_units) => `(tactic| k_extra "units")
local macro_rules | `(tactic| k_room) => `(tactic| ktr_room)
local macro_rules | `(tactic| k_ne) => `(tactic| k_extra "k_ne")
local macro_rules | `(tactic| k_mem) => `(tactic| k_extra "k_mem")
local macro_rules | `(tactic| k_all) => `(tactic| k_extra "k_all")
-- Base
open PySem PySem.W PySem.Calls PyProof.Rows
namespace Mine
noncomputable abbrev P0 : Program := PySem.Challenge.rw_pd0160_01.row.prog
noncomputable abbrev KF (w : World) : Frag := hd.heap_39 w.params
noncomputable abbrev LO : List Str := looseW hd.view_39 [Str.ofString "_NodeInfo", Str.ofString "_filemode_table"]
noncomputable abbrev Led := List (Addr × Obj)
theorem shs {P : Shared → Prop} (h : ∀ hp g d t o, P ⟨hp, g, d, t, o⟩) (s : Shared) : P s := h s.heap s.gens s.drawn s.toks s.os
theorem toks_all {α : Type} {M : Model} {A : Around} {E : Value → Shared → Prop} {t : Sem α} {Q : α → Shared → Prop} {s : Shared} (h : ∀ tk, wpAny M A t Q E { s with toks := tk }) : wpAny M A t Q E s := h s.toks
theorem fr_map {h₀ h : Heap} {L : Addr} {m m' : Str → Option Value} (F : Fr h₀ L h m) (e : ∀ y, m y = m' y) : Fr h₀ L h m' := (funext e : m = m') ▸ F
theorem look_one (k : Str) (v : Value) (y : Str) : List.lookup y [(k, v)] = if y = k then some v else none := by
  rw [List.lookup_cons]
  by_cases h : y = k
  · rw [if_pos h, h, beq_self_eq_true]
  · rw [if_neg h, beq_eq_false_iff_ne.mpr h]
    rfl
theorem look_c (k : Str) (v : Value) (y : Str) (l : List (Str × Value)) : List.lookup y ((k, v) :: l) = if y = k then some v else List.lookup y l := by
  rw [List.lookup_cons]
  by_cases h : y = k
  · rw [if_pos h, h, beq_self_eq_true]
  · rw [if_neg h, beq_eq_false_iff_ne.mpr h]
theorem look_two (k : Str) (v : Value) (k2 : Str) (v2 : Value) (y : Str) : List.lookup y [(k, v), (k2, v2)] = if y = k then some v else if y = k2 then some v2 else none := by
  rw [look_c, look_one]
/-- a contract: calling f on args with the ledger news gives back what Post says -/
noncomputable def Tell (w : World) (mean : ExcName → Option Value) (mg mb : Str → Option Value) (D U : Nat) (f : Addr) (args : List Value) (news : Led) (Post : Value → Led → Prop) : Prop :=
  ∀ (dp un : Nat) (gd : Option (List Code)) (cn : Str) (cs : Scope) (a : Addr) (ccd : Value) (cl : List (Str × Addr)) (outer : List Env) (A₀ : Around) (base h₀ : Heap) (L : Addr) (m : Str → Option Value) (s : Shared) (Q E : Value → Shared → Prop),
    Below A₀ base outer h₀ → Fr h₀ L s.heap m → (hd.heap_39 w.params).In h₀ → News h₀ L s.heap news → Top hd.view_39 (looseW hd.view_39 [Str.ofString "_NodeInfo", Str.ofString "_filemode_table"]) mean mg mb h₀ → cs.kind = .function →
    dp + D < recursionLimit → un + U < cLine →
    (∀ v news' h' tk', Post v news' → Fr h₀ L h' m → News h₀ L h' news' → Q v { s with heap := h', toks := tk' }) →
    wpAny (model PySem.Challenge.rw_pd0160_01.row.prog w) (ktrTop dp un gd cn cs L a ccd cl outer) (call (.ref f) args) Q E s
theorem tell_use {w : World} {mean : ExcName → Option Value} {mg mb : Str → Option Value} {D U : Nat} {f : Addr} {args : List Value} {news : Led} {Post : Value → Led → Prop}
    {dp un : Nat} {gd : Option (List Code)} {cn : Str} {cs : Scope} {a : Addr} {ccd : Value} {cl : List (Str × Addr)} {outer : List Env} {A₀ : Around} {base h₀ : Heap} {L : Addr} {m : Str → Option Value} {s : Shared} {Q E : Value → Shared → Prop}
    (C : Tell w mean mg mb D U f args news Post) (B : Below A₀ base outer h₀) (F : Fr h₀ L s.heap m) (X : (hd.heap_39 w.params).In h₀) (N : News h₀ L s.heap news)
    (T : Top hd.view_39 (looseW hd.view_39 [Str.ofString "_NodeInfo", Str.ofString "_filemode_table"]) mean mg mb h₀) (hk : cs.kind = .function) (hd : dp + D < recursionLimit) (hu : un + U < cLine)
    (ret : ∀ v news' h' tk', Post v news' → Fr h₀ L h' m → News h₀ L h' news' → Q v { s with heap := h', toks := tk' }) :
    wpAny (model PySem.Challenge.rw_pd0160_01.row.prog w) (ktrTop dp un gd cn cs L a ccd cl outer) (call (.ref f) args) Q E s :=
  C dp un gd cn cs a ccd cl outer A₀ base h₀ L m s Q E B F X N T hk hd hu ret
theorem tellS_use {w : World} {mean : ExcName → Option Value} {mg mb : Str → Option Value} {D U : Nat} {f : Addr} {args : List Value} {news : Led} {r : Str}
    {dp un : Nat} {gd : Option (List Code)} {cn : Str} {cs : Scope} {a : Addr} {ccd : Value} {cl : List (Str × Addr)} {outer : List Env} {A₀ : Around} {base h₀ : Heap} {L : Addr} {m : Str → Option Value} {s : Shared} {Q E : Value → Shared → Prop}
    (C : Tell w mean mg mb D U f args news (fun v n' => n' = news ∧ ∃ t, v = .str r t)) (B : Below A₀ base outer h₀) (F : Fr h₀ L s.heap m) (X : (hd.heap_39 w.params).In h₀) (N : News h₀ L s.heap news)
    (T : Top hd.view_39 (looseW hd.view_39 [Str.ofString "_NodeInfo", Str.ofString "_filemode_table"]) mean mg mb h₀) (hk : cs.kind = .function) (hd : dp + D < recursionLimit) (hu : un + U < cLine)
    (ret : ∀ t h' tk', Fr h₀ L h' m → News h₀ L h' news → Q (.str r t) { s with heap := h', toks := tk' }) :
    wpAny (model PySem.Challenge.rw_pd0160_01.row.prog w) (ktrTop dp un gd cn cs L a ccd cl outer) (call (.ref f) args) Q E s :=
  tell_use C B F X N T hk hd hu (by rintro v n' h' tk' ⟨rfl, t, rfl⟩ F' N'; exact ret t h' tk' F' N')
theorem tellV_use {w : World} {mean : ExcName → Option Value} {mg mb : Str → Option Value} {D U : Nat} {f : Addr} {args : List Value} {news : Led} {r : Value}
    {dp un : Nat} {gd : Option (List Code)} {cn : Str} {cs : Scope} {a : Addr} {ccd : Value} {cl : List (Str × Addr)} {outer : List Env} {A₀ : Around} {base h₀ : Heap} {L : Addr} {m : Str → Option Value} {s : Shared} {Q E : Value → Shared → Prop}
    (C : Tell w mean mg mb D U f args news (fun v n' => n' = news ∧ v = r)) (B : Below A₀ base outer h₀) (F : Fr h₀ L s.heap m) (X : (hd.heap_39 w.params).In h₀) (N : News h₀ L s.heap news)
    (T : Top hd.view_39 (looseW hd.view_39 [Str.ofString "_NodeInfo", Str.ofString "_filemode_table"]) mean mg mb h₀) (hk : cs.kind = .function) (hd : dp + D < recursionLimit) (hu : un + U < cLine)
    (ret : ∀ h' tk', Fr h₀ L h' m → News h₀ L h' news → Q r { s with heap := h', toks := tk' }) :
    wpAny (model PySem.Challenge.rw_pd0160_01.row.prog w) (ktrTop dp un gd cn cs L a ccd cl outer) (call (.ref f) args) Q E s :=
  tell_use C B F X N T hk hd hu (by rintro v n' h' tk' ⟨rfl, rfl⟩ F' N'; exact ret h' tk' F' N')
end Mine
-- Str1
open PySem PySem.W PySem.Calls PyProof.Rows
namespace Mine
theorem kind_isn : builtinKind "issubclass.nested" = none := by decide +kernel
theorem plain_isn : plainId "issubclass.nested" = true := by decide +kernel
theorem args_isn3 (a b c : Value) : argsOk "issubclass.nested" ⟨[a, b, c], []⟩ := by unfold argsOk; kernel_rfl
section
variable {prog : Program} {w : World} {A : Around} {E : Value → Shared → Prop} {s : Shared}
theorem isn_str {k : Int} {tk : Tok} : Meets (Builtin.«issubclass.nested» ⟨[.type "str", .type "str", .int k tk], []⟩) (fun _ R s => R (.ok (.ret (.bool true))) s) := by
  intro prog w A R s hs
  have hm := F.isi_meta_str
  have hself := F.sub_str_str
  repeat (any_goals (first | assumption | (rw [if_pos hm]) | (rw [hself]) | wp_step))
theorem isn_tup {D : Addr} {tk : Tok} {R : Fin → Shared → Prop} {n : Nat} {cs : List Value} (hcs : cs = [.type "str", .type "bytes"]) (hD : s.heap.get? D = some { cls := .type "tuple", data := .seq cs.toArray n })
   (hq : R (.done (.ret (.bool true))) s) : wpAny (model prog w) A (Builtin.«issubclass.nested» ⟨[.type "str", .ref D, .int 0 tk], []⟩) R E s := by
  refine Classical.byContradiction fun hn9 => ?_
  obtain ⟨h, g, d, t, os⟩ := s
  refine hn9 ?_
  clear hn9
  have hT2 : (⟨h, g, d, t, os⟩ : Shared).TypeIs (.ref D) "tuple" := ⟨_, hD, rfl⟩
  have f1 := F.isi_sub_tuple
  repeat (any_goals (first | assumption | wp_step))
  refine wpAny_arrayLoop ?_
  simp only [Option.getD_some, List.toList_toArray]
  subst hcs
  rw [List.forIn_cons]
  refine wpAny_bind (wpAny_bind (call_function_meets kind_isn plain_isn F.entry_issubclass_nested (args_isn3 _ _ _) isn_str ?_))
  refine wpAny_bind (m := truthy (.bool true)) (wpAny_pure ?_)
  repeat (any_goals (first | assumption | wp_step))
theorem issub_str {D : Addr} {n : Nat} {Q : Value → Shared → Prop} (hD : s.heap.get? D = some { cls := .type "tuple", data := .seq #[.type "str", .type "bytes"] n })
   (h : Q (.bool true) s) : wpAny (model prog w) A (call (.builtin "issubclass") [.type "str", .ref D]) Q E s :=
  call_issubclass (S := fun _ R s' => s'.heap.get? D = some { cls := .type "tuple", data := .seq #[.type "str", .type "bytes"] n } ∧ R (.ok (.ret (.bool true))) s')
    (fun _ _ _ _ _ hs => issubclass_outer (isn_tup rfl hs.1 hs.2)) ⟨hD, h⟩
end
theorem lines_Str11 : True := by
  k_with_none
  k_with "k_ne" => (first | with_reducible assumption | exact Ne.symm (by with_reducible assumption) | (refine neN ?_; (try dsimp only); first | with_reducible assumption | exact Ne.symm (by with_reducible assumption) | exact Nat.ne_of_lt (by with_reducible assumption) | exact Nat.ne_of_gt (by with_reducible assumption) | exact nl0 (by with_reducible assumption) | exact ng0 (by with_reducible assumption) | exact nl1 (by with_reducible assumption) | exact ng1 (by with_reducible assumption) | exact nl2 (by with_reducible assumption) | exact ng2 (by with_reducible assumption) | exact nl3 (by with_reducible assumption) | exact ng3 (by with_reducible assumption) | exact nl4 (by with_reducible assumption) | exact ng4 (by with_reducible assumption) | exact nl5 (by with_reducible assumption) | exact ng5 (by with_reducible assumption) | exact nl6 (by with_reducible assumption) | exact ng6 (by with_reducible assumption) | exact nl7 (by with_reducible assumption) | exact ng7 (by with_reducible assumption) | exact nl8 (by with_reducible assumption) | exact ng8 (by with_reducible assumption) | exact nl9 (by with_reducible assumption) | exact ng9 (by with_reducible assumption) | omega))
  k_with "room" => (first | exact room0 (by with_reducible assumption) | exact room1 (by with_reducible assumption) (by decide) | exact room2 (by with_reducible assumption) (by decide) | exact room3 (by with_reducible assumption) (by decide))
  k_with "units" => (first | exact unit0 (by with_reducible assumption) | exact unit1 (by with_reducible assumption) (by decide) | exact unit2 (by with_reducible assumption) (by decide) | exact unit3 (by with_reducible assumption) (by decide))
  k_with "om" => (first | with_reducible assumption | with_reducible exact le_lit (by with_reducible assumption) (by decide) | with_reducible exact add_lit (by with_reducible assumption) (by with_reducible assumption) (by with_reducible assumption) (by decide) | with_reducible exact lt_lel (by with_reducible assumption) (by decide) | with_reducible exact sum_lit (by with_reducible assumption) (by with_reducible assumption) (by decide) | with_reducible exact suc_lit (by with_reducible assumption) (by decide) | with_reducible exact lt_lit (by with_reducible assumption) (by decide) | with_reducible exact le_ltl (by with_reducible assumption) (by decide) | with_reducible exact ige_lit (by with_reducible assumption) (by decide) | with_reducible exact ile_lit (by with_reducible assumption) (by decide) | with_reducible exact ilt_lit (by with_reducible assumption) (by decide) | omega)
  k_with "eval BinOp" => (k_here; k_fold)
  k_with "eval Call Attribute" => (k_here; k_fold)
  k_with "eval Call Name" => (k_here; k_fold)
  k_with "eval Call" => (k_here; k_fold)
  k_with "eval Subscript" => (k_here; k_fold)
  k_with "eval Compare" => (k_here; k_fold)
  k_with "eval IfExp" => (k_here; k_fold)
  k_with "eval List" => (k_here; k_fold)
  k_with "eval Tuple" => (k_here; k_fold)
  k_with "call builtin:issubclass cons nil" => (k_here; k_dflt (refine' issub_str (by exact News.get (by k_asm) (by k_mem)) ?_))
  trivial

theorem fspath_str (w : World) (mean : ExcName → Option Value) (mg mb : Str → Option Value) (x : Str) (t : Tok) (news : Led) :
    Tell w mean mg mb 1 8 94 [.str x t] news (fun v n' => n' = news ∧ v = .str x t) := by
  unfold Tell
  k_fill
  intro dp un gd cn cs a ccd cl outer A₀ base h₀ L m s Q E B F X N T hk hdp hun hret
  refine wpAny_call ?_
  k_dflt ktr_enter
  refine wpAny_noRaise ?_
  k_steps
  all_goals exact hret _ _ _ _ ⟨rfl, rfl⟩ (by k_asm) (cb_drop (by assumption) (by kcj_all))
end Mine
-- Loop
open PySem PySem.W PySem.Calls PyProof.Rows
namespace Mine

section
variable {prog : Program} {w : World} {A : Around} {E : Value → Shared → Prop} {s : Shared} {env : Env} {h₀ : Heap} {x : Str} {body : List Stmt} {Q : Flow → Shared → Prop}
noncomputable def TurnEnd (h₀ : Heap) (L I : Addr) (io : Obj) (Jn : (Str → Option Value) → Led → Prop) (s₂ : Shared) (Q : Flow → Shared → Prop) (f : Flow) (s' : Shared) : Prop :=
  match f with
  | .ret v => Q (.ret v) s'
  | .brk => Q .next s'
  | _ => ∃ h' tk m' news', s' = { s₂ with heap := h', toks := tk } ∧ Fr h₀ L h' m' ∧ News h₀ L h' ((I, io) :: news') ∧ (∀ p ∈ news', p.1 ≠ I) ∧ Jn m' news'
theorem TurnEnd.fin {L I : Addr} {io : Obj} {Jn : (Str → Option Value) → Led → Prop} {s₂ : Shared} {f : Flow} {h' : Heap} {tk : Nat} {m' : Str → Option Value} {news' : Led} (hf : f = .next ∨ f = .cont)
    (F : Fr h₀ L h' m') (N : News h₀ L h' ((I, io) :: news')) (hn : ∀ p ∈ news', p.1 ≠ I) (hJ : Jn m' news') : TurnEnd h₀ L I io Jn s₂ Q f { s₂ with heap := h', toks := tk } := by
  rcases hf with rfl | rfl <;> exact ⟨h', tk, m', news', rfl, F, N, hn, hJ⟩
theorem ifif (x : Str) (a b : Option Value) (m : Str → Option Value) : (fun y => if y = x then a else if y = x then b else m y) = fun y => if y = x then a else m y := by
  funext y; by_cases h : y = x <;> simp [h]
theorem loopAt {I : Addr} {src : List Addr} {n : Nat} {P : Nat → Value → Prop} {St : Nat → Heap → Prop} {m₀ : Str → Option Value} {news : Led} {s₂ : Shared}
    (W : Walks prog w A I (I :: src) [I] n P St) (hI : ∀ i h, St i h → ∃ o, h.get? I = some o) (hI0 : h₀.get? I = none) (hIL : env.locals ≠ I) (hIn : ∀ p ∈ news, p.1 ≠ I)
    (hsL : env.locals ∉ src) (hst : St 0 s₂.heap) (F : Fr h₀ env.locals s₂.heap m₀) (N : News h₀ env.locals s₂.heap news)
    (J : Nat → (Str → Option Value) → Led → Prop) (h0 : J 0 m₀ news) (keep : ∀ i m n, J i m n → ∀ d ∈ src, (h₀.get? d).isSome = true ∨ ∃ od, (d, od) ∈ news ∧ (d, od) ∈ n)
    (turn : ∀ i v m₁ news₁ h tk io, i < n → P i v → J i m₁ news₁ → (∀ p ∈ news₁, p.1 ≠ I) → Fr h₀ env.locals h (fun y => if y = x then some v else m₁ y) → News h₀ env.locals h ((I, io) :: news₁) →
      wpAny (model prog w) A (execs body env) (TurnEnd h₀ env.locals I io (J (i + 1)) s₂ Q) E { s₂ with heap := h, toks := tk })
    (done : ∀ m₁ news₁ h tk, J n m₁ news₁ → Fr h₀ env.locals h m₁ → News h₀ env.locals h news₁ → Q .next { s₂ with heap := h, toks := tk }) :
    LoopAtV prog w A h₀ env x body Q E (.ref I) s₂ := by
  have uniq : ∀ d o o', (d, o) ∈ news → (d, o') ∈ news → o = o' := fun d o o' h1 h2 => Option.some.inj ((N _ h1).1.symm.trans (N _ h2).1)
  refine ⟨I, I :: src, [I], n, P, St, m₀, news, J, rfl, W, ?_, ?_, ?_, hst, F, N, h0, ?_, ?_⟩
  · intro h
    rcases List.mem_cons.mp h with h | h
    · exact hIL h
    · exact hsL h
  · intro b hb; rw [List.mem_singleton.mp hb]; exact hI0
  · intro p hp hq; exact hIn p hp (List.mem_singleton.mp hq)
  · intro i v m₁ news₁ s₁ own hp96 hi hP hJ hoff hsub hget hall hst₁ F₁ N₁
    refine Classical.byContradiction fun hn9 => ?_
    obtain ⟨h, tk, rfl⟩ := hp96
    refine hn9 ?_
    clear hn9
    refine Classical.byContradiction fun hn9 => ?_
    obtain ⟨io, hio⟩ := hI _ _ hst₁
    refine hn9 ?_
    clear hn9
    have hm : (I, io) ∈ own := hall I (.head _) hI0 io hio
    have N₂ : News h₀ env.locals h ((I, io) :: news₁) := fun p hp => by
      rcases List.mem_cons.mp hp with rfl | hp
      · exact N₁ _ (List.mem_append_left _ hm)
      · exact N₁ _ (List.mem_append_right _ hp)
    refine wpAny_mono (turn i v m₁ news₁ h tk io hi hP hJ (fun p hp hq => hoff p hp (by rw [hq]; exact .head _)) F₁ N₂) (fun f s' hs' => ?_) fun _ _ e => e
    have fin : (∃ h' tk' m' news', s' = { s₂ with heap := h', toks := tk' } ∧ Fr h₀ env.locals h' m' ∧ News h₀ env.locals h' ((I, io) :: news') ∧ (∀ p ∈ news', p.1 ≠ I) ∧ J (i + 1) m' news') →
        LoopStepU h₀ env.locals [I] own (J (i + 1)) { s₂ with heap := h, toks := tk } .next s' := by
      intro hp90
      refine Classical.byContradiction fun hn9 => ?_
      obtain ⟨h', tk', m', news', rfl, F', N', hn', hJ'⟩ := hp90
      refine hn9 ?_
      clear hn9
      refine ⟨rfl, h', tk', m', news', rfl, F', ?_, ?_, hJ'⟩
      · intro p hp
        rcases List.mem_append.mp hp with hp | hp
        · have h1 := hsub p hp
          have h2 := hget p hp
          rcases List.mem_cons.mp h1 with e | h1
          · refine Classical.byContradiction fun hn9 => ?_
            obtain ⟨pa, po⟩ := p
            refine hn9 ?_
            clear hn9
            dsimp only at e h2
            subst e
            have : po = io := Option.some.inj (h2.symm.trans hio)
            subst this
            exact N' _ (.head _)
          · rcases keep _ _ _ hJ p.1 h1 with hs | ⟨od, hd0, hd⟩
            · refine Classical.byContradiction fun hn9 => ?_
              obtain ⟨o', ho'⟩ := Option.isSome_iff_exists.mp hs
              refine hn9 ?_
              clear hn9
              have h4 := (N₁ p (List.mem_append_left _ hp)).2.2
              rw [ho'] at h4; cases h4
            · have h3 := (N₁ _ (List.mem_append_right _ hd)).1
              have : p.2 = od := Option.some.inj (h2.symm.trans h3)
              rcases keep _ _ _ hJ' p.1 h1 with hs | ⟨od', hd0', hd'⟩
              · refine Classical.byContradiction fun hn9 => ?_
                obtain ⟨o', ho'⟩ := Option.isSome_iff_exists.mp hs
                refine hn9 ?_
                clear hn9
                have h4 := (N₁ p (List.mem_append_left _ hp)).2.2
                rw [ho'] at h4; cases h4
              · have h5 := uniq _ _ _ hd0 hd0'
                have h6 := N' (p.1, od') (.tail _ hd')
                rw [← h5, ← this] at h6
                exact h6
        · exact N' p (.tail _ hp)
      · intro p hp hq
        exact hn' p hp (List.mem_singleton.mp hq)
    cases f with
    | ret v => exact .ret hs'
    | brk => exact .brk hs'
    | next => exact .next (fin hs')
    | cont => exact .cont (fin hs')
  · rintro h' tk m' news' F' N' _ hJ
    exact done m' news' h' tk hJ F' N'

noncomputable abbrev TurnOf (prog : Program) (w : World) (A : Around) (E : Value → Shared → Prop) (s : Shared) (env : Env) (h₀ : Heap) (x : Str) (body : List Stmt) (Q : Flow → Shared → Prop) (n : Nat) (P : Nat → Value → Prop) (J : Nat → (Str → Option Value) → Led → Prop) : Prop :=
  ∀ i v m₁ news₁ h tk I io, i < n → P i v → J i m₁ news₁ → (∀ p ∈ news₁, p.1 ≠ I) → Fr h₀ env.locals h (fun y => if y = x then some v else m₁ y) → News h₀ env.locals h ((I, io) :: news₁) →
      wpAny (model prog w) A (execs body env) (TurnEnd h₀ env.locals I io (J (i + 1)) s Q) E { s with heap := h, toks := tk }
noncomputable abbrev DoneOf (s : Shared) (env : Env) (h₀ : Heap) (Q : Flow → Shared → Prop) (n : Nat) (J : Nat → (Str → Option Value) → Led → Prop) : Prop :=
  ∀ m₁ news₁ h tk, J n m₁ news₁ → Fr h₀ env.locals h m₁ → News h₀ env.locals h news₁ → Q .next { s with heap := h, toks := tk }
theorem fresh_none {L : Addr} {h : Heap} {m : Str → Option Value} (F : Fr h₀ L h m) : h₀.get? h.objs.size = none := by
  cases q : h₀.get? h.objs.size with
  | none => rfl
  | some o => exact absurd (Heap.lt_size (F.keep _ _ q)) (Nat.lt_irrefl _)
theorem iterList {l : Addr} {lo : Obj} {vs : List Value} {c : Nat} {m₀ : Str → Option Value} {news : Led} (J : Nat → (Str → Option Value) → Led → Prop)
    (hh : A.handled = none) (F : Fr h₀ env.locals s.heap m₀) (N : News h₀ env.locals s.heap news) (hl : (l, lo) ∈ news) (hc : lo.cls = .type "list") (hd : lo.data = .seq vs.toArray c)
    (h0 : J 0 m₀ news) (keep : ∀ i m n, J i m n → (l, lo) ∈ n)
    (turn : TurnOf prog w A E s env h₀ x body Q vs.length (fun i v => vs[i]? = some v) J) (done : DoneOf s env h₀ Q vs.length J) :
    wpAny (model prog w) A (pyIter (.ref l)) (fun it s₂ => LoopAtV prog w A h₀ env x body Q E it s₂) E s := by
  have hls : s.heap.IsList l vs.toArray := ⟨lo, (N _ hl).1, hc, c, hd⟩
  refine wpAny_pyIter_list hls ?_
  have hne : l ≠ s.heap.objs.size := Nat.ne_of_lt (Heap.lt_size (N _ hl).1)
  have W := Walks.list (prog := prog) (w := w) hh s.heap.objs.size l hne vs.toArray
  have hlen : vs.toArray.size = vs.length := by simp
  rw [hlen] at W
  refine loopAt W (fun i h st => let ⟨o, ho, _⟩ := st.1; ⟨o, ho⟩) (fresh_none F) (Nat.ne_of_lt F.ns.lt) (fun p hp => Nat.ne_of_lt (Heap.lt_size (N p hp).1)) ?_
    ⟨⟨_, Heap.get?_push_size _ rfl, rfl, rfl⟩, hls.at fun o e => Heap.get?_push_of_some _ e⟩ (F.push _) (fun p hp => ⟨Heap.get?_push_of_some _ (N p hp).1, (N p hp).2⟩) J h0 ?_ ?_ ?_
  · intro h; exact (N _ hl).2.1 (List.mem_singleton.mp h).symm
  · intro i m n hJ d hd'
    rw [List.mem_singleton.mp hd']
    exact .inr ⟨lo, hl, keep i m n hJ⟩
  · intro i v m₁ news₁ h tk io hi hP hJ hn F₁ N₁
    exact turn i v m₁ news₁ h tk _ io hi (by simpa using hP) hJ hn F₁ N₁
  · intro m₁ news₁ h tk hJ F₁ N₁
    exact done m₁ news₁ h tk hJ F₁ N₁
theorem iterTuple {l : Addr} {lo : Obj} {vs : List Value} {c : Nat} {m₀ : Str → Option Value} {news : Led} (J : Nat → (Str → Option Value) → Led → Prop)
    (hh : A.handled = none) (F : Fr h₀ env.locals s.heap m₀) (N : News h₀ env.locals s.heap news) (hl : (l, lo) ∈ news) (hc : lo.cls = .type "tuple") (hd : lo.data = .seq vs.toArray c)
    (h0 : J 0 m₀ news) (keep : ∀ i m n, J i m n → (l, lo) ∈ n)
    (turn : TurnOf prog w A E s env h₀ x body Q vs.length (fun i v => vs[i]? = some v) J) (done : DoneOf s env h₀ Q vs.length J) :
    wpAny (model prog w) A (pyIter (.ref l)) (fun it s₂ => LoopAtV prog w A h₀ env x body Q E it s₂) E s := by
  have hls : s.heap.IsTuple l vs.toArray := ⟨lo, (N _ hl).1, hc, c, hd⟩
  refine wpAny_pyIter_tuple hls ?_
  have hne : l ≠ s.heap.objs.size := Nat.ne_of_lt (Heap.lt_size (N _ hl).1)
  have W := Walks.tuple (prog := prog) (w := w) hh s.heap.objs.size l hne vs.toArray
  have hlen : vs.toArray.size = vs.length := by simp
  rw [hlen] at W
  refine loopAt W (fun i h st => let ⟨o, ho, _⟩ := st.1; ⟨o, ho⟩) (fresh_none F) (Nat.ne_of_lt F.ns.lt) (fun p hp => Nat.ne_of_lt (Heap.lt_size (N p hp).1)) ?_
    ⟨⟨_, Heap.get?_push_size _ rfl, rfl, rfl⟩, hls.at fun o e => Heap.get?_push_of_some _ e⟩ (F.push _) (fun p hp => ⟨Heap.get?_push_of_some _ (N p hp).1, (N p hp).2⟩) J h0 ?_ ?_ ?_
  · intro h; exact (N _ hl).2.1 (List.mem_singleton.mp h).symm
  · intro i m n hJ d hd'
    rw [List.mem_singleton.mp hd']
    exact .inr ⟨lo, hl, keep i m n hJ⟩
  · intro i v m₁ news₁ h tk io hi hP hJ hn F₁ N₁
    exact turn i v m₁ news₁ h tk _ io hi (by simpa using hP) hJ hn F₁ N₁
  · intro m₁ news₁ h tk hJ F₁ N₁
    exact done m₁ news₁ h tk hJ F₁ N₁
theorem TurnEnd.mono {L I : Addr} {io : Obj} {Jn Jn' : (Str → Option Value) → Led → Prop} {s₂ : Shared} {f : Flow} {s' : Shared} (h : ∀ m n, Jn m n → Jn' m n) (t : TurnEnd h₀ L I io Jn s₂ Q f s') : TurnEnd h₀ L I io Jn' s₂ Q f s' := by
  cases f with
  | ret v => exact t
  | brk => exact t
  | next => obtain ⟨h', tk, m', n', e, F, N, hn, hJ⟩ := t; exact ⟨h', tk, m', n', e, F, N, hn, h _ _ hJ⟩
  | cont => obtain ⟨h', tk, m', n', e, F, N, hn, hJ⟩ := t; exact ⟨h', tk, m', n', e, F, N, hn, h _ _ hJ⟩
/-- a loop over a tuple of one item -/
theorem iterOne {D : Addr} {v : Value} {c : Nat} {m₀ : Str → Option Value} {L0 : Led} (P : (Str → Option Value) → Led → Prop)
    (hh : A.handled = none) (F : Fr h₀ env.locals s.heap m₀) (N : News h₀ env.locals s.heap L0) (hD : (D, { cls := .type "tuple", data := .seq #[v] c }) ∈ L0) (keep : ∀ m n, P m n → (D, { cls := .type "tuple", data := .seq #[v] c }) ∈ n)
    (turn : ∀ h tk I io, (∀ p ∈ L0, p.1 ≠ I) → Fr h₀ env.locals h (fun y => if y = x then some v else m₀ y) → News h₀ env.locals h ((I, io) :: L0) →
      wpAny (model prog w) A (execs body env) (TurnEnd h₀ env.locals I io P s Q) E { s with heap := h, toks := tk })
    (done : ∀ m' n' h tk, P m' n' → Fr h₀ env.locals h m' → News h₀ env.locals h n' → Q .next { s with heap := h, toks := tk }) :
    wpAny (model prog w) A (pyIter (.ref D)) (fun it s₂ => LoopAtV prog w A h₀ env x body Q E it s₂) E s := by
  refine iterTuple (vs := [v]) (fun i m n => (i = 0 ∧ m = m₀ ∧ n = L0) ∨ (i = 1 ∧ P m n)) hh F N hD rfl rfl (.inl ⟨rfl, rfl, rfl⟩) ?_ ?_ ?_
  · rintro i m n (⟨_, rfl, rfl⟩ | ⟨_, h⟩)
    · exact hD
    · exact keep m n h
  · intro i v' m₁ news₁ h tk I io hi hP hJ hn F₁ N₁
    have hi0 : i = 0 := by simp at hi; omega
    subst hi0
    have hv : v' = v := by simpa using hP.symm
    subst hv
    rcases hJ with ⟨_, rfl, rfl⟩ | ⟨h0, _⟩
    · exact wpAny_mono (turn h tk I io hn F₁ N₁) (fun f s' t => t.mono fun m n h => .inr ⟨rfl, h⟩) fun _ _ e => e
    · cases h0
  · rintro m₁ news₁ h tk (⟨h0, _⟩ | ⟨_, hP⟩) F₁ N₁
    · cases h0
    · exact done _ _ h tk hP F₁ N₁
theorem range_size (n : Nat) : Builtin.Range.rangeSize 0 n 1 = n := by
  unfold Builtin.Range.rangeSize
  by_cases h : (0 : Int) < n
  · rw [if_pos (by decide), if_pos h]; omega
  · have : n = 0 := by omega
    subst this; rfl
theorem range_small (n : Nat) (h : n ≤ 1000000) : Builtin.Range.small 0 n 1 = true := by
  unfold Builtin.Range.small
  rw [range_size]
  have f : ∀ z : Int, 0 ≤ z → z ≤ 1000000 → Builtin.Range.rangeFitsLong z = true := by
    intro z h1 h2
    unfold Builtin.Range.rangeFitsLong
    simp; omega
  rw [f 0 (by omega) (by omega), f n (by omega) (by omega), f 1 (by omega) (by omega)]
  simp
  right
  exact f _ (by omega) (by omega)
theorem iterRange {r : Addr} {t u v : Tok} {n : Nat} {m₀ : Str → Option Value} {news : Led} (J : Nat → (Str → Option Value) → Led → Prop)
    (hh : A.handled = none) (F : Fr h₀ env.locals s.heap m₀) (N : News h₀ env.locals s.heap news) (hr : IsRange s.heap r 0 n 1 t u v) (hn : n ≤ 1000000)
    (h0 : J 0 m₀ news)
    (turn : TurnOf prog w A E s env h₀ x body Q n (fun i v => ∃ t, v = .int i t) J) (done : DoneOf s env h₀ Q n J) :
    wpAny (model prog w) A (pyIter (.ref r)) (fun it s₂ => LoopAtV prog w A h₀ env x body Q E it s₂) E s := by
  refine wpAny_pyIter_range hr (range_small n hn) ?_
  rw [range_size]
  have W := Walks.range (prog := prog) (w := w) hh s.heap.objs.size 0 1 n
  refine loopAt W (fun i h st => ⟨_, st⟩) (fresh_none F) (Nat.ne_of_lt F.ns.lt) (fun p hp => Nat.ne_of_lt (Heap.lt_size (N p hp).1)) (fun h => nomatch h)
    ?_ (F.push _) (fun p hp => ⟨Heap.get?_push_of_some _ (N p hp).1, (N p hp).2⟩) J h0 (fun _ _ _ _ d hd => nomatch hd) ?_ ?_
  · have e1 : ((0 : Int) + ((0 : Nat) : Int) * 1) = 0 := by simp
    have e2 : ((n : Int) - ((0 : Nat) : Int)) = n := by simp
    show IsRangeIter _ _ ((0 : Int) + ((0 : Nat) : Int) * 1) ((n : Int) - ((0 : Nat) : Int)) 1
    rw [e1, e2]
    exact Heap.get?_push_size _ rfl
  · intro i v m₁ news₁ h tk io hi hp98 hJ hn' F₁ N₁
    refine Classical.byContradiction fun hn9 => ?_
    obtain ⟨t', rfl⟩ := hp98
    refine hn9 ?_
    clear hn9
    exact turn i _ m₁ news₁ h tk _ io hi ⟨t', by simp⟩ hJ hn' F₁ N₁
  · intro m₁ news₁ h tk hJ F₁ N₁
    exact done m₁ news₁ h tk hJ F₁ N₁
theorem iterKeys {d : Addr} {od : Obj} {kvs : List (Str × Value)} {m₀ : Str → Option Value} {news : Led} (J : Nat → (Str → Option Value) → Led → Prop)
    (hh : A.handled = none) (F : Fr h₀ env.locals s.heap m₀) (N : News h₀ env.locals s.heap news) (hl : (d, od) ∈ news) (hd : od.IsDictOf (strKind prog w) kvs) (lo : (d == sysModules) = false)
    (h0 : J 0 m₀ news) (keep : ∀ i m n, J i m n → (d, od) ∈ n)
    (turn : TurnOf prog w A E s env h₀ x body Q kvs.length (fun i v => ∃ k u t, kvs[i]? = some (k, u) ∧ v = .str k t) J) (done : DoneOf s env h₀ Q kvs.length J) :
    wpAny (model prog w) A (pyIter (.ref d)) (fun it s₂ => LoopAtV prog w A h₀ env x body Q E it s₂) E s := by
  refine Classical.byContradiction fun hn9 => ?_
  obtain ⟨es, ep, hx⟩ := hd
  refine hn9 ?_
  clear hn9
  have hat : s.heap.DictAt (strKind prog w) d kvs ep := ⟨od, es, (N _ hl).1, hx⟩
  refine wpAny_pyIter_dict lo hat ?_
  have hne : d ≠ s.heap.objs.size := Nat.ne_of_lt (Heap.lt_size (N _ hl).1)
  have W := Walks.dictKeys (knd := strKind prog w) hh s.heap.objs.size d hne kvs ep
  refine loopAt W (fun i h st => let ⟨o, ho, _⟩ := st.1; ⟨o, ho⟩) (fresh_none F) (Nat.ne_of_lt F.ns.lt) (fun p hp => Nat.ne_of_lt (Heap.lt_size (N p hp).1)) ?_
    ⟨⟨_, Heap.get?_push_size _ rfl, rfl, rfl⟩, hat.push _⟩ (F.push _) (fun p hp => ⟨Heap.get?_push_of_some _ (N p hp).1, (N p hp).2⟩) J h0 ?_ ?_ ?_
  · intro h; exact (N _ hl).2.1 (List.mem_singleton.mp h).symm
  · intro i m n hJ d' hd'
    rw [List.mem_singleton.mp hd']
    exact .inr ⟨od, hl, keep i m n hJ⟩
  · intro i v m₁ news₁ h tk io hi hp98 hJ hn F₁ N₁
    refine Classical.byContradiction fun hn9 => ?_
    obtain ⟨k, u, hk, hv⟩ := hp98
    refine hn9 ?_
    clear hn9
    have hv' : ∃ t, v = .str k t := by
      have : v.isStrOf k = true := hv
      cases v <;> simp [Value.isStrOf] at this
      exact ⟨_, by rw [this]⟩
    refine Classical.byContradiction fun hn9 => ?_
    obtain ⟨t, rfl⟩ := hv'
    refine hn9 ?_
    clear hn9
    exact turn i _ m₁ news₁ h tk _ io hi ⟨k, u, t, hk, rfl⟩ hJ hn F₁ N₁
  · intro m₁ news₁ h tk hJ F₁ N₁
    exact done m₁ news₁ h tk hJ F₁ N₁
end
/-- a stop for the walk -/
noncomputable def Held (P : Prop) : Prop := P
theorem Held.mk {P : Prop} (h : Held P) : P := h
theorem Held.of {P : Prop} (h : P) : Held P := h
end Mine
-- Ops
open PySem PySem.W PySem.Calls PyProof.Rows
namespace Mine

theorem allLt_ne {d : Addr} {l : Led} (h : AllLt d l) : ∀ p ∈ l, p.1 ≠ d := fun p hp => Nat.ne_of_lt (ktn_ltOf h p hp)
section
variable {prog : Program} {w : World} {A : Around} {E : Value → Shared → Prop} {s : Shared} {h₀ : Heap} {L D : Addr} {m : Str → Option Value} {news news' : Led} {n : Nat}
theorem size_of {vs : List Value} {k : Nat} (h : vs.length ≤ k) (hk : k ≤ 16777216) : vs.length ≤ sizeLine := by rw [sizeLine_eq]; omega
theorem truthyL {vs : List Value} {Q : Bool → Shared → Prop} (N : News h₀ L s.heap news) (hp : (D, W.listOf vs.toArray n) ∈ news) (hz : vs.length ≤ 16777216) (h : Q (!vs.isEmpty) { s with toks := s.toks + 1 + 1 }) :
    wpAny (model prog w) A (truthy (.ref D)) Q E s := by
  refine wpAny_truthy_list (items := vs.toArray) ⟨_, (N _ hp).1, rfl, _, rfl⟩ ?_ ?_
  · simp only [List.size_toArray]; omega
  · simpa using h
theorem appendL {vs : List Value} {x : Value} {Q : Value → Shared → Prop} (F : Fr h₀ L s.heap m) (N : News h₀ L s.heap news) (U : Upd D (W.listOf vs.toArray n) (W.listOf (vs ++ [x]).toArray (n + 1)) news news')
    (hz : vs.length ≤ 16777216) (h : ∀ h', Fr h₀ L h' m → News h₀ L h' news' → Q .none { s with heap := h' }) : wpAny (model prog w) A (call (.builtin "list.append") [.ref D, x]) Q E s := by
  have e : (vs ++ [x]).toArray = vs.toArray.push x := by simp
  rw [e] at U
  exact append_K F N U h (by simp only [List.size_toArray]; exact size_of hz (Nat.le_refl _))
theorem klast (p : List Value) (y : Value) : kl_last (p ++ [y]) = some (p, y) := kpa_last y p
theorem popL {p : List Value} {y : Value} {Q : Value → Shared → Prop} (F : Fr h₀ L s.heap m) (N : News h₀ L s.heap news) (U : Upd D (W.listOf (p ++ [y]).toArray n) (W.listOf p.toArray (n + 1)) news news')
    (hz : p.length + 1 ≤ 16777216) (h : ∀ h', Fr h₀ L h' m → News h₀ L h' news' → Q y { s with heap := h' }) : wpAny (model prog w) A (call (.builtin "list.pop") [.ref D]) Q E s :=
  kl_pop F N (p := p) (y := y) (klast p y) U (by simp; exact size_of (k := 16777216) (vs := p ++ [y]) (by simpa using hz) (Nat.le_refl _) |> (by simpa using ·)) h
theorem getNone {d : Addr} {o : Obj} {kvs : List (Str × Value)} {k : Str} {t : Tok} {Q : Value → Shared → Prop} (N : News h₀ L s.heap news) (hp : (d, o) ∈ news) (hd : o.IsDictOf (strKind prog w) kvs) (lo : (d == sysModules) = false) (hl : valueAt kvs k = none)
    (h : Q .none { s with toks := s.toks + 1 }) : wpAny (model prog w) A (call (.builtin "dict.get") [.ref d, .str k t]) Q E s := kdg_get1 N hp hd lo (strKind_is _ _ _ _) none hl h
theorem getSome {d : Addr} {o : Obj} {kvs : List (Str × Value)} {k : Str} {t : Tok} {v : Value} {Q : Value → Shared → Prop} (N : News h₀ L s.heap news) (hp : (d, o) ∈ news) (hd : o.IsDictOf (strKind prog w) kvs) (lo : (d == sysModules) = false) (hl : valueAt kvs k = some v)
    (h : Q v { s with toks := s.toks + 1 }) : wpAny (model prog w) A (call (.builtin "dict.get") [.ref d, .str k t]) Q E s := kdg_get1 N hp hd lo (strKind_is _ _ _ _) (some v) hl h
theorem truthyNil {Q : Bool → Shared → Prop} (N : News h₀ L s.heap news) (hp : (D, W.listOf #[] n) ∈ news) (h : Q false { s with toks := s.toks + 1 + 1 }) :
    wpAny (model prog w) A (truthy (.ref D)) Q E s := truthyL (vs := []) N hp (by decide) h
theorem truthyApp {p : List Value} {y : Value} {Q : Bool → Shared → Prop} (N : News h₀ L s.heap news) (hp : (D, W.listOf (p ++ [y]).toArray n) ∈ news) (hz : p.length + 1 ≤ 16777216) (h : Q true { s with toks := s.toks + 1 + 1 }) :
    wpAny (model prog w) A (truthy (.ref D)) Q E s := truthyL N hp (by simpa using hz) (by rw [show (p ++ [y]).isEmpty = false from by cases p <;> rfl]; exact h)
theorem lastApp {value slice : PySem.Expr} {p : List Value} {y : Value} {u : Tok} {Q : Value → Shared → Prop} (N : News h₀ L s.heap news) (hp : (D, W.listOf (p ++ [y]).toArray n) ∈ news) (hz : p.length + 1 ≤ 16777216) (h : Q y s)
    (hs : subscripted slice false (.ref D) (.int (-1) u) = operate [.ref D, .int (-1) u] (getItem (.ref D) (.int (-1) u)) := by with_unfolding_all rfl) :
    wpAny (model prog w) A (subscriptTail value slice (.ref D) (.int (-1) u)) Q E s := by
  have hl : s.heap.IsList D (p ++ [y]).toArray := ⟨_, (N _ hp).1, rfl, _, rfl⟩
  refine tail_any hl.typeIs slot_list_getitem.lookup (wpAny_getItem_list_neg hl (by decide) (by simp; omega) (by decide) ?_ h) hs
  have e : ((-1 : Int) + ((p ++ [y]).toArray.size : Int)).toNat = p.length := by simp; omega
  rw [e]; simp
theorem strs_last {vs : List Value} {xs : List Str} (h : StrsAre vs xs) : (vs = [] ∧ xs = []) ∨ ∃ p ps q t, vs = p ++ [.str q t] ∧ xs = ps ++ [q] ∧ StrsAre p ps := by
  induction h with
  | nil => exact .inl ⟨rfl, rfl⟩
  | cons y t hr ih =>
    right
    rcases ih with ⟨rfl, rfl⟩ | ⟨p, ps, q, t', rfl, rfl, hp⟩
    · exact ⟨[], [], y, t, rfl, rfl, .nil⟩
    · exact ⟨_ :: p, y :: ps, q, t', rfl, rfl, .cons y t hp⟩
theorem strs_app {vs us : List Value} {xs ys : List Str} (h : StrsAre vs xs) (k : StrsAre us ys) : StrsAre (vs ++ us) (xs ++ ys) := by
  induction h with
  | nil => exact k
  | cons y t _ ih => exact .cons y t ih
theorem strs_len {vs : List Value} {xs : List Str} (h : StrsAre vs xs) : vs.length = xs.length := by
  induction h with
  | nil => rfl
  | cons y t _ ih => simp [ih]
end
end Mine
-- Str2
open PySem PySem.W PySem.Calls PyProof.Rows
namespace Mine

theorem lines_Str21 : True := by
  k_with_none
  k_with "k_ne" => (first | with_reducible assumption | exact Ne.symm (by with_reducible assumption) | (refine neN ?_; (try dsimp only); first | with_reducible assumption | exact Ne.symm (by with_reducible assumption) | exact Nat.ne_of_lt (by with_reducible assumption) | exact Nat.ne_of_gt (by with_reducible assumption) | exact nl0 (by with_reducible assumption) | exact ng0 (by with_reducible assumption) | exact nl1 (by with_reducible assumption) | exact ng1 (by with_reducible assumption) | exact nl2 (by with_reducible assumption) | exact ng2 (by with_reducible assumption) | exact nl3 (by with_reducible assumption) | exact ng3 (by with_reducible assumption) | exact nl4 (by with_reducible assumption) | exact ng4 (by with_reducible assumption) | exact nl5 (by with_reducible assumption) | exact ng5 (by with_reducible assumption) | exact nl6 (by with_reducible assumption) | exact ng6 (by with_reducible assumption) | exact nl7 (by with_reducible assumption) | exact ng7 (by with_reducible assumption) | exact nl8 (by with_reducible assumption) | exact ng8 (by with_reducible assumption) | exact nl9 (by with_reducible assumption) | exact ng9 (by with_reducible assumption) | omega))
  k_with "room" => (first | exact room0 (by with_reducible assumption) | exact room1 (by with_reducible assumption) (by decide) | exact room2 (by with_reducible assumption) (by decide) | exact room3 (by with_reducible assumption) (by decide))
  k_with "units" => (first | exact unit0 (by with_reducible assumption) | exact unit1 (by with_reducible assumption) (by decide) | exact unit2 (by with_reducible assumption) (by decide) | exact unit3 (by with_reducible assumption) (by decide))
  k_with "om" => (first | with_reducible assumption | with_reducible exact le_lit (by with_reducible assumption) (by decide) | with_reducible exact add_lit (by with_reducible assumption) (by with_reducible assumption) (by with_reducible assumption) (by decide) | with_reducible exact lt_lel (by with_reducible assumption) (by decide) | with_reducible exact sum_lit (by with_reducible assumption) (by with_reducible assumption) (by decide) | with_reducible exact suc_lit (by with_reducible assumption) (by decide) | with_reducible exact lt_lit (by with_reducible assumption) (by decide) | with_reducible exact le_ltl (by with_reducible assumption) (by decide) | with_reducible exact ige_lit (by with_reducible assumption) (by decide) | with_reducible exact ile_lit (by with_reducible assumption) (by decide) | with_reducible exact ilt_lit (by with_reducible assumption) (by decide) | omega)
  k_with "eval BinOp" => (k_here; k_fold)
  k_with "eval Call Attribute" => (k_here; k_fold)
  k_with "eval Call Name" => (k_here; k_fold)
  k_with "eval Call" => (k_here; k_fold)
  k_with "eval Subscript" => (k_here; k_fold)
  k_with "eval Compare" => (k_here; k_fold)
  k_with "eval IfExp" => (k_here; k_fold)
  k_with "eval List" => (k_here; k_fold)
  k_with "eval Tuple" => (k_here; k_fold)
  k_with "call ref" => (k_here; (with_reducible show wpAny _ _ (call (Value.ref 94) [Value.str _ _]) _ _ _); k_dflt (refine' tellV_use (fspath_str _ _ _ _ _ _ _) (by k_asm) (by k_asm) (by k_asm) (by k_asm) (by k_asm) (by first | exact rfl | assumption) (by ktr_room) (by ktr_units) ?_); intro h9 tk9 F9 N9; (try dsimp only); (try k_fold))
  trivial

theorem get_sep (w : World) (mean : ExcName → Option Value) (mg mb : Str → Option Value) (x : Str) (t : Tok) (news : Led) :
    Tell w mean mg mb 1 8 108 [.str x t] news (fun v n' => n' = news ∧ ∃ t, v = .str (Str.ofString "/") t) := by
  unfold Tell
  k_fill
  intro dp un gd cn cs a ccd cl outer A₀ base h₀ L m
  intro s Q E B F X N T hk hdp hun hret
  refine wpAny_call ?_
  k_dflt ktr_enter
  refine wpAny_noRaise ?_
  k_steps
  all_goals exact hret _ _ _ _ ⟨rfl, _, rfl⟩ (by k_asm) (by k_asm)
theorem lines_Str22 : True := by
  k_with "call ref" => (k_here; (with_reducible show wpAny _ _ (call (Value.ref 108) [Value.str _ _]) _ _ _); k_dflt (refine' tellS_use (get_sep _ _ _ _ _ _ _) (by k_asm) (by k_asm) (by k_asm) (by k_asm) (by k_asm) (by first | exact rfl | assumption) (by ktr_room) (by ktr_units) ?_); intro t9 h9 tk9 F9 N9; (try dsimp only); (try k_fold))
  trivial

noncomputable def dirH (x : Str) : Str := Txt.slice x none (some (Txt.rfind x (Str.ofString "/") + 1))
noncomputable def dirF (x : Str) : Str := if ((dirH x).length : Int) ≠ 0 ∧ (dirH x != Txt.mul (Str.ofString "/") (dirH x).length) = true then Txt.rstripChars (dirH x) (Str.ofString "/") else dirH x
theorem dirF_1 {x : Str} (h1 : ((Txt.slice x none (some (Txt.rfind x (Str.ofString "/") + 1))).length : Int) ≠ 0) (h2 : (Txt.slice x none (some (Txt.rfind x (Str.ofString "/") + 1)) != Txt.mul (Str.ofString "/") ((Txt.slice x none (some (Txt.rfind x (Str.ofString "/") + 1))).length : Int)) = true) :
    Txt.rstripChars (Txt.slice x none (some (Txt.rfind x (Str.ofString "/") + 1))) (Str.ofString "/") = dirF x := by
  unfold dirF; exact (if_pos ⟨h1, h2⟩).symm
theorem dirF_2 {x : Str} (h2 : (Txt.slice x none (some (Txt.rfind x (Str.ofString "/") + 1)) != Txt.mul (Str.ofString "/") ((Txt.slice x none (some (Txt.rfind x (Str.ofString "/") + 1))).length : Int)) = false) :
    Txt.slice x none (some (Txt.rfind x (Str.ofString "/") + 1)) = dirF x := by
  unfold dirF; exact (if_neg (fun h => Bool.noConfusion (h.2.symm.trans h2))).symm
theorem dirF_3 {x : Str} (h1 : ((Txt.slice x none (some (Txt.rfind x (Str.ofString "/") + 1))).length : Int) = 0) :
    Txt.slice x none (some (Txt.rfind x (Str.ofString "/") + 1)) = dirF x := by
  unfold dirF; exact (if_neg (fun h => h.1 h1)).symm
theorem dirname_c (w : World) (mean : ExcName → Option Value) (mg mb : Str → Option Value) (x : Str) (t : Tok) (news : Led) (hx : x.length ≤ 4096) :
    Tell w mean mg mb 2 16 129 [.str x t] news (fun v n' => n' = news ∧ ∃ t, v = .str (dirF x) t) := by
  unfold Tell
  k_fill
  intro dp un gd cn cs a ccd cl outer A₀ base h₀ L m
  intro s Q E B F X N T hk hdp hun hret
  refine wpAny_call ?_
  k_dflt ktr_enter
  refine wpAny_noRaise ?_
  rename Fr h₀ _ _ _ => FG0
  rename Fr _ _ _ _ => F90
  have F91 := fr_map F90 (look_one (Str.ofString "p") (.str x t))
  clear F90
  k_steps
  all_goals refine hret _ _ _ _ ⟨rfl, _, congrArg (fun z => Value.str z _) ?_⟩ (by k_asm) (by k_asm)
  · exact dirF_1 (by assumption) (by assumption)
  · exact dirF_2 (by assumption)
  · exact dirF_3 (by assumption)
end Mine
-- Mode1
open PySem PySem.W PySem.Calls PyProof.Rows
namespace Mine


theorem lines_Mode11 : True := by
  k_with_none
  k_with "k_ne" => (first | with_reducible assumption | exact Ne.symm (by with_reducible assumption) | (refine neN ?_; (try dsimp only); first | with_reducible assumption | exact Ne.symm (by with_reducible assumption) | exact Nat.ne_of_lt (by with_reducible assumption) | exact Nat.ne_of_gt (by with_reducible assumption) | exact nl0 (by with_reducible assumption) | exact ng0 (by with_reducible assumption) | exact nl1 (by with_reducible assumption) | exact ng1 (by with_reducible assumption) | exact nl2 (by with_reducible assumption) | exact ng2 (by with_reducible assumption) | exact nl3 (by with_reducible assumption) | exact ng3 (by with_reducible assumption) | exact nl4 (by with_reducible assumption) | exact ng4 (by with_reducible assumption) | exact nl5 (by with_reducible assumption) | exact ng5 (by with_reducible assumption) | exact nl6 (by with_reducible assumption) | exact ng6 (by with_reducible assumption) | exact nl7 (by with_reducible assumption) | exact ng7 (by with_reducible assumption) | exact nl8 (by with_reducible assumption) | exact ng8 (by with_reducible assumption) | exact nl9 (by with_reducible assumption) | exact ng9 (by with_reducible assumption) | omega))
  k_with "room" => (first | exact room0 (by with_reducible assumption) | exact room1 (by with_reducible assumption) (by decide) | exact room2 (by with_reducible assumption) (by decide) | exact room3 (by with_reducible assumption) (by decide))
  k_with "units" => (first | exact unit0 (by with_reducible assumption) | exact unit1 (by with_reducible assumption) (by decide) | exact unit2 (by with_reducible assumption) (by decide) | exact unit3 (by with_reducible assumption) (by decide))
  k_with "om" => (first | with_reducible assumption | with_reducible exact le_lit (by with_reducible assumption) (by decide) | with_reducible exact add_lit (by with_reducible assumption) (by with_reducible assumption) (by with_reducible assumption) (by decide) | with_reducible exact lt_lel (by with_reducible assumption) (by decide) | with_reducible exact sum_lit (by with_reducible assumption) (by with_reducible assumption) (by decide) | with_reducible exact suc_lit (by with_reducible assumption) (by decide) | with_reducible exact lt_lit (by with_reducible assumption) (by decide) | with_reducible exact le_ltl (by with_reducible assumption) (by decide) | with_reducible exact ige_lit (by with_reducible assumption) (by decide) | with_reducible exact ile_lit (by with_reducible assumption) (by decide) | with_reducible exact ilt_lit (by with_reducible assumption) (by decide) | omega)
  k_with "execs cons" => (k_here; k_fold)
  k_with "eval BinOp" => (k_here; k_fold)
  k_with "eval Call Attribute" => (k_here; k_fold)
  k_with "eval Call Name" => (k_here; k_fold)
  k_with "eval Call" => (k_here; k_fold)
  k_with "eval Subscript" => (k_here; k_fold)
  k_with "eval Compare" => (k_here; k_fold)
  k_with "eval IfExp" => (k_here; k_fold)
  k_with "eval List" => (k_here; k_fold)
  k_with "eval Tuple" => (k_here; k_fold)
  k_with "k_all" => (first | exact allLt_ne (by assumption) | assumption | (intro p9 hp9; refine neN ?_; have h9 := ltN (ktn_ltOf (by first | assumption | exact (show _ ∧  AllLt _ _ by assumption).2 | exact (show _ ∧ _ ∧  AllLt _ _ by assumption).2.2 | exact (show _ ∧ _ ∧ _ ∧  AllLt _ _ by assumption).2.2.2 | exact (show _ ∧ _ ∧ _ ∧ _ ∧  AllLt _ _ by assumption).2.2.2.2 | exact (show _ ∧ _ ∧ _ ∧ _ ∧ _ ∧  AllLt _ _ by assumption).2.2.2.2.2 | exact (show _ ∧ _ ∧ _ ∧ _ ∧ _ ∧ _ ∧  AllLt _ _ by assumption).2.2.2.2.2.2 | exact (show _ ∧ _ ∧ _ ∧ _ ∧ _ ∧ _ ∧ _ ∧  AllLt _ _ by assumption).2.2.2.2.2.2.2 | exact (show _ ∧ _ ∧ _ ∧ _ ∧ _ ∧ _ ∧ _ ∧ _ ∧  AllLt _ _ by assumption).2.2.2.2.2.2.2.2 | exact (show _ ∧ _ ∧ _ ∧ _ ∧ _ ∧ _ ∧ _ ∧ _ ∧ _ ∧  AllLt _ _ by assumption).2.2.2.2.2.2.2.2.2 | exact (show _ ∧ _ ∧ _ ∧ _ ∧ _ ∧ _ ∧ _ ∧ _ ∧ _ ∧ _ ∧  AllLt _ _ by assumption).2.2.2.2.2.2.2.2.2.2) p9 hp9); first | exact Nat.ne_of_lt h9 | exact Nat.ne_of_gt h9 | omega))
  trivial

theorem s_ifmt (w : World) (mean : ExcName → Option Value) (mg mb : Str → Option Value) (x : Int) (t : Tok) (news : Led) (h0 : 0 ≤ x) (h1 : x < 65536) :
    Tell w mean mg mb 1 8 263 [.int x t] news (fun v n' => n' = news ∧ ∃ t, v = .int (Builtin.bitAnd x 61440) t) := by
  unfold Tell
  k_fill
  intro dp un gd cn cs a ccd cl outer A₀ base h₀ L m
  intro s Q E B F X N T hk hdp hun hret
  refine wpAny_call ?_
  k_dflt ktr_enter
  refine wpAny_noRaise ?_
  k_steps
  all_goals exact hret _ _ _ _ ⟨rfl, _, rfl⟩ (by k_asm) (by k_asm)
theorem s_islnk (w : World) (mean : ExcName → Option Value) (mg mb : Str → Option Value) (x : Int) (t : Tok) (news : Led) (h0 : 0 ≤ x) (h1 : x < 65536) :
    Tell w mean mg mb 2 16 270 [.int x t] news (fun v n' => n' = news ∧ v = .bool (Builtin.bitAnd x 61440 == 40960)) := by
  unfold Tell
  k_fill
  intro dp un gd cn cs a ccd cl outer A₀ base h₀ L m
  intro s Q E B F X N T hk hdp hun hret
  refine wpAny_call ?_
  k_dflt ktr_enter
  refine wpAny_noRaise ?_
  k_steps
  all_goals exact hret _ _ _ _ ⟨rfl, rfl⟩ (by k_asm) (by k_asm)
end Mine
-- Str4
open PySem PySem.W PySem.Calls PyProof.Rows
namespace Mine


theorem lines_Str41 : True := by
  k_with_none
  k_with "k_ne" => (first | with_reducible assumption | exact Ne.symm (by with_reducible assumption) | (refine neN ?_; (try dsimp only); first | with_reducible assumption | exact Ne.symm (by with_reducible assumption) | exact Nat.ne_of_lt (by with_reducible assumption) | exact Nat.ne_of_gt (by with_reducible assumption) | exact nl0 (by with_reducible assumption) | exact ng0 (by with_reducible assumption) | exact nl1 (by with_reducible assumption) | exact ng1 (by with_reducible assumption) | exact nl2 (by with_reducible assumption) | exact ng2 (by with_reducible assumption) | exact nl3 (by with_reducible assumption) | exact ng3 (by with_reducible assumption) | exact nl4 (by with_reducible assumption) | exact ng4 (by with_reducible assumption) | exact nl5 (by with_reducible assumption) | exact ng5 (by with_reducible assumption) | exact nl6 (by with_reducible assumption) | exact ng6 (by with_reducible assumption) | exact nl7 (by with_reducible assumption) | exact ng7 (by with_reducible assumption) | exact nl8 (by with_reducible assumption) | exact ng8 (by with_reducible assumption) | exact nl9 (by with_reducible assumption) | exact ng9 (by with_reducible assumption) | omega))
  k_with "room" => (first | exact room0 (by with_reducible assumption) | exact room1 (by with_reducible assumption) (by decide) | exact room2 (by with_reducible assumption) (by decide) | exact room3 (by with_reducible assumption) (by decide))
  k_with "units" => (first | exact unit0 (by with_reducible assumption) | exact unit1 (by with_reducible assumption) (by decide) | exact unit2 (by with_reducible assumption) (by decide) | exact unit3 (by with_reducible assumption) (by decide))
  k_with "om" => (first | with_reducible assumption | with_reducible exact le_lit (by with_reducible assumption) (by decide) | with_reducible exact add_lit (by with_reducible assumption) (by with_reducible assumption) (by with_reducible assumption) (by decide) | with_reducible exact lt_lel (by with_reducible assumption) (by decide) | with_reducible exact sum_lit (by with_reducible assumption) (by with_reducible assumption) (by decide) | with_reducible exact suc_lit (by with_reducible assumption) (by decide) | with_reducible exact lt_lit (by with_reducible assumption) (by decide) | with_reducible exact le_ltl (by with_reducible assumption) (by decide) | with_reducible exact ige_lit (by with_reducible assumption) (by decide) | with_reducible exact ile_lit (by with_reducible assumption) (by decide) | with_reducible exact ilt_lit (by with_reducible assumption) (by decide) | omega)
  k_with "execs cons" => (k_here; k_fold)
  k_with "eval BinOp" => (k_here; k_fold)
  k_with "eval Call Attribute" => (k_here; k_fold)
  k_with "eval Call Name" => (k_here; k_fold)
  k_with "eval Call" => (k_here; k_fold)
  k_with "eval Subscript" => (k_here; k_fold)
  k_with "eval Compare" => (k_here; k_fold)
  k_with "eval IfExp" => (k_here; k_fold)
  k_with "eval List" => (k_here; k_fold)
  k_with "eval Tuple" => (k_here; k_fold)
  k_with "k_all" => (first | exact allLt_ne (by assumption) | assumption | (intro p9 hp9; refine neN ?_; have h9 := ltN (ktn_ltOf (by first | assumption | exact (show _ ∧  AllLt _ _ by assumption).2 | exact (show _ ∧ _ ∧  AllLt _ _ by assumption).2.2 | exact (show _ ∧ _ ∧ _ ∧  AllLt _ _ by assumption).2.2.2 | exact (show _ ∧ _ ∧ _ ∧ _ ∧  AllLt _ _ by assumption).2.2.2.2 | exact (show _ ∧ _ ∧ _ ∧ _ ∧ _ ∧  AllLt _ _ by assumption).2.2.2.2.2 | exact (show _ ∧ _ ∧ _ ∧ _ ∧ _ ∧ _ ∧  AllLt _ _ by assumption).2.2.2.2.2.2 | exact (show _ ∧ _ ∧ _ ∧ _ ∧ _ ∧ _ ∧ _ ∧  AllLt _ _ by assumption).2.2.2.2.2.2.2 | exact (show _ ∧ _ ∧ _ ∧ _ ∧ _ ∧ _ ∧ _ ∧ _ ∧  AllLt _ _ by assumption).2.2.2.2.2.2.2.2 | exact (show _ ∧ _ ∧ _ ∧ _ ∧ _ ∧ _ ∧ _ ∧ _ ∧ _ ∧  AllLt _ _ by assumption).2.2.2.2.2.2.2.2.2 | exact (show _ ∧ _ ∧ _ ∧ _ ∧ _ ∧ _ ∧ _ ∧ _ ∧ _ ∧ _ ∧  AllLt _ _ by assumption).2.2.2.2.2.2.2.2.2.2) p9 hp9); first | exact Nat.ne_of_lt h9 | exact Nat.ne_of_gt h9 | omega))
  k_with "exec Try" => (k_here; refine wpAny_Try_except ?_)
  k_with "call ref" => (k_here; (with_reducible show wpAny _ _ (call (Value.ref 94) [Value.str _ _]) _ _ _); k_dflt (refine' tellV_use (fspath_str _ _ _ _ _ _ _) (by k_asm) (by k_asm) (by k_asm) (by k_asm) (by k_asm) (by first | exact rfl | assumption) (by ktr_room) (by ktr_units) ?_); intro h9 tk9 F9 N9; (try dsimp only); (try k_fold))
  trivial

theorem get_sep2 (w : World) (mean : ExcName → Option Value) (mg mb : Str → Option Value) (x : Str) (t : Tok) (news : Led) :
    Tell w mean mg mb 1 8 108 [.str x t] news (fun v n' => n' = news ∧ ∃ t, v = .str (Str.ofString "/") t) := by
  unfold Tell
  k_fill
  intro dp un gd cn cs a ccd cl outer A₀ base h₀ L m
  intro s Q E B F X N T hk hdp hun hret
  refine wpAny_call ?_
  k_dflt ktr_enter
  refine wpAny_noRaise ?_
  k_steps
  all_goals exact hret _ _ _ _ ⟨rfl, _, rfl⟩ (by k_asm) (by k_asm)
theorem lines_Str42 : True := by
  k_with "call ref" => (k_here; (with_reducible show wpAny _ _ (call (Value.ref 108) [Value.str _ _]) _ _ _); k_dflt (refine' tellS_use (get_sep2 _ _ _ _ _ _ _) (by k_asm) (by k_asm) (by k_asm) (by k_asm) (by k_asm) (by first | exact rfl | assumption) (by ktr_room) (by ktr_units) ?_); intro t9 h9 tk9 F9 N9; (try dsimp only); (try k_fold))
  k_with "exec For Name Name cons nil" => (k_here; (rename Fr _ _ _ _ => lF'); (with_unfolding_all refine' For_invVF lF' (by exact rfl) (by exact rfl) ?_; k_whole))
  k_with "pyIter ref" => (refine Held.mk ?_)
  trivial

noncomputable def joinF (x y : Str) : Str := if Txt.startswith y (Str.ofString "/") = true ∨ (x.length : Int) = 0 then y else if Txt.endswith x (Str.ofString "/") = true then x ++ y else x ++ (Str.ofString "/" ++ y)
noncomputable def JJoin (m₀ : Str → Option Value) (r : Str) (L0 : Led) (i : Nat) (m₁ : Str → Option Value) (n : Led) : Prop :=
  n = L0 ∧ ((i = 0 ∧ m₁ = m₀) ∨ (i = 1 ∧ ∃ t u, m₁ = fun z => if z = Str.ofString "path" then some (.str r t) else if z = Str.ofString "b" then u else m₀ z))
theorem join_iter {prog : Program} {w : World} {A : Around} {E : Value → Shared → Prop} {s : Shared} {env : Env} {h₀ : Heap} {body : List Stmt} {Q : Flow → Shared → Prop}
    {D : Addr} {y : Str} {ty : Tok} {c : Nat} {tl : Led} {m : Str → Option Value} (r : Str)
    (hh : A.handled = none) (F : Fr h₀ env.locals s.heap m) (N : News h₀ env.locals s.heap ((D, { cls := .type "tuple", data := .seq #[.str y ty] c }) :: tl))
    (turn : TurnOf prog w A E s env h₀ (Str.ofString "b") body Q 1 (fun i v => i = 0 ∧ v = .str y ty) (JJoin m r ((D, { cls := .type "tuple", data := .seq #[.str y ty] c }) :: tl)))
    (done : DoneOf s env h₀ Q 1 (JJoin m r ((D, { cls := .type "tuple", data := .seq #[.str y ty] c }) :: tl))) :
    wpAny (model prog w) A (pyIter (.ref D)) (fun it s₂ => LoopAtV prog w A h₀ env (Str.ofString "b") body Q E it s₂) E s := by
  refine iterTuple (vs := [.str y ty]) (JJoin m r _) hh F N (.head _) rfl rfl ⟨rfl, .inl ⟨rfl, rfl⟩⟩ ?_ ?_ done
  · intro i m n hp93
    refine Classical.byContradiction fun hn9 => ?_
    obtain ⟨rfl, _⟩ := hp93
    refine hn9 ?_
    clear hn9
    exact .head _
  · intro i v m₁ news₁ h tk I io hi hP hJ hn F₁ N₁
    have hi0 : i = 0 := by simp at hi; omega
    subst hi0
    exact turn 0 v m₁ news₁ h tk I io (by decide) ⟨rfl, by simpa using hP.symm⟩ hJ hn F₁ N₁
section
variable {x y : Str}
theorem jf1 (h : Txt.startswith y (Str.ofString "/") = true) : joinF x y = y := by unfold joinF; rw [if_pos (.inl h)]
theorem jf2 (h : (x.length : Int) = 0) : joinF x y = y := by unfold joinF; rw [if_pos (.inr h)]
theorem jf_off (h1 : Txt.startswith y (Str.ofString "/") = false) (h2 : (x.length : Int) ≠ 0) : ¬ (Txt.startswith y (Str.ofString "/") = true ∨ (x.length : Int) = 0) := by
  rintro (h | h)
  · rw [h1] at h; cases h
  · exact h2 h
theorem jf3 (h1 : Txt.startswith y (Str.ofString "/") = false) (h2 : (x.length : Int) ≠ 0) (h3 : Txt.endswith x (Str.ofString "/") = true) : joinF x y = x ++ y := by unfold joinF; rw [if_neg (jf_off h1 h2), if_pos h3]
theorem jf4 (h1 : Txt.startswith y (Str.ofString "/") = false) (h2 : (x.length : Int) ≠ 0) (h3 : Txt.endswith x (Str.ofString "/") = false) : joinF x y = x ++ (Str.ofString "/" ++ y) := by unfold joinF; rw [if_neg (jf_off h1 h2), if_neg (by rw [h3]; decide)]
end
theorem jmap3 (r : Value) (a b : Option Value) (m : Str → Option Value) : (fun z => if z = Str.ofString "path" then some r else if z = Str.ofString "b" then a else if z = Str.ofString "b" then b else m z) = fun z => if z = Str.ofString "path" then some r else if z = Str.ofString "b" then a else m z := by
  funext z; by_cases h : z = Str.ofString "b" <;> simp [h]
theorem jj_end {m₀ : Str → Option Value} {r R : Str} {L0 : Led} {t : Tok} {a b : Option Value} (h : r = R) : JJoin m₀ r L0 1 (fun z => if z = Str.ofString "path" then some (.str R t) else if z = Str.ofString "b" then a else if z = Str.ofString "b" then b else m₀ z) L0 := by
  subst h
  exact ⟨rfl, .inr ⟨rfl, t, a, jmap3 _ _ _ _⟩⟩
theorem join_c (w : World) (mean : ExcName → Option Value) (mg mb : Str → Option Value) (x y : Str) (tx ty : Tok) (news : Led) (hx : x.length ≤ 4096) (hy : y.length ≤ 4096) :
    Tell w mean mg mb 3 24 115 [.str x tx, .str y ty] news (fun v n' => n' = news ∧ ∃ t, v = .str (joinF x y) t) := by
  unfold Tell
  k_fill
  intro dp un gd cn cs a ccd cl outer A₀ base h₀ L m
  intro s Q E B F X N T hk hdp hun hret
  refine wpAny_call ?_
  k_dflt (refine' kpc_rest ?k1 ?k2 ?k3 ?k4 ?k5 ?kA ?kF ?kK ?k6 ?k7 ?k8 ?kV ?kP ?kG ?kB ?_ ?c2 ?c3 ?c4 ?c5; (case kA => exact rfl); (case kF => exact rfl); (case kK => assumption); (case k1 => k_asm); (case k2 => k_asm); (case k3 => k_asm); (case k4 => k_asm); (case k5 => k_asm); (case k6 => k_is); (case k7 => k_is); (case k8 => ktr_room); (case kV => kl_lit); (case kP => exact rfl); (case kG => exact fun _ => rfl); (case kB => exact fun _ => locs rfl); (case c5 => decide); (case c2 => exact rfl); (case c3 => exact rfl); (case c4 => exact rfl); k_whole; intro D' g' L' h' l1 FG' F' N' B' X' T'; (try k_lt l1); (try dsimp only); (try k_fold))
  refine wpAny_noRaise ?_
  k_steps
  refine Held.of ?_
  rename Fr _ _ _ _ => F1
  rename News _ _ _ _ => N1
  k_dflt (refine join_iter (joinF x y) rfl F1 N1 ?turn ?done)
  case turn =>
    intro i v m₁ news₁ h tk I io hi hp99 hp910 hne F₁ N₁
    refine Classical.byContradiction fun hn9 => ?_
    obtain ⟨rfl, rfl⟩ := hp99
    obtain ⟨rfl, hJ⟩ := hp910
    refine hn9 ?_
    clear hn9
    have hm1 := (hJ.resolve_right (by rintro ⟨h, _⟩; cases h)).2
    subst hm1
    clear hJ F1 N1
    k_steps
    all_goals (try dsimp only)
    all_goals refine TurnEnd.fin (.inl rfl) (by k_asm) (by k_asm) hne (jj_end ?_)
    all_goals first | exact jf1 (by assumption) | exact jf2 (by assumption) | exact jf3 (by assumption) (by assumption) (by assumption) | exact jf4 (by assumption) (by assumption) (by assumption)
  case done =>
    intro m₁ news₁ h tk hp94 F₁ N₁
    refine Classical.byContradiction fun hn9 => ?_
    obtain ⟨rfl, hJ⟩ := hp94
    refine hn9 ?_
    clear hn9
    obtain ⟨t, u, rfl⟩ := (hJ.resolve_left (by rintro ⟨h, _⟩; cases h)).2
    clear hJ F1 N1
    dsimp only
    k_steps
    all_goals exact hret _ _ _ _ ⟨rfl, _, rfl⟩ (by k_asm) (cb_drop (by assumption) (by kcj_all))
end Mine
-- Str3
open PySem PySem.W PySem.Calls PyProof.Rows
namespace Mine

theorem bf {b : Bool} (h : b = true) (h' : b = false) : False := Bool.noConfusion (h.symm.trans h')
theorem lines_Str31 : True := by
  k_with_none
  k_with "k_ne" => (first | with_reducible assumption | exact Ne.symm (by with_reducible assumption) | (refine neN ?_; (try dsimp only); first | with_reducible assumption | exact Ne.symm (by with_reducible assumption) | exact Nat.ne_of_lt (by with_reducible assumption) | exact Nat.ne_of_gt (by with_reducible assumption) | exact nl0 (by with_reducible assumption) | exact ng0 (by with_reducible assumption) | exact nl1 (by with_reducible assumption) | exact ng1 (by with_reducible assumption) | exact nl2 (by with_reducible assumption) | exact ng2 (by with_reducible assumption) | exact nl3 (by with_reducible assumption) | exact ng3 (by with_reducible assumption) | exact nl4 (by with_reducible assumption) | exact ng4 (by with_reducible assumption) | exact nl5 (by with_reducible assumption) | exact ng5 (by with_reducible assumption) | exact nl6 (by with_reducible assumption) | exact ng6 (by with_reducible assumption) | exact nl7 (by with_reducible assumption) | exact ng7 (by with_reducible assumption) | exact nl8 (by with_reducible assumption) | exact ng8 (by with_reducible assumption) | exact nl9 (by with_reducible assumption) | exact ng9 (by with_reducible assumption) | omega))
  k_with "room" => (first | exact room0 (by with_reducible assumption) | exact room1 (by with_reducible assumption) (by decide) | exact room2 (by with_reducible assumption) (by decide) | exact room3 (by with_reducible assumption) (by decide))
  k_with "units" => (first | exact unit0 (by with_reducible assumption) | exact unit1 (by with_reducible assumption) (by decide) | exact unit2 (by with_reducible assumption) (by decide) | exact unit3 (by with_reducible assumption) (by decide))
  k_with "om" => (first | with_reducible assumption | with_reducible exact le_lit (by with_reducible assumption) (by decide) | with_reducible exact add_lit (by with_reducible assumption) (by with_reducible assumption) (by with_reducible assumption) (by decide) | with_reducible exact lt_lel (by with_reducible assumption) (by decide) | with_reducible exact sum_lit (by with_reducible assumption) (by with_reducible assumption) (by decide) | with_reducible exact suc_lit (by with_reducible assumption) (by decide) | with_reducible exact lt_lit (by with_reducible assumption) (by decide) | with_reducible exact le_ltl (by with_reducible assumption) (by decide) | with_reducible exact ige_lit (by with_reducible assumption) (by decide) | with_reducible exact ile_lit (by with_reducible assumption) (by decide) | with_reducible exact ilt_lit (by with_reducible assumption) (by decide) | omega)
  k_with "execs cons" => (k_here; (with_reducible show wpAny _ _ _ _ _ (Shared.mk _ _ _ (_ + _) _)); refine toks_all ?_; intro tk; (try dsimp only))
  k_with "execs nil" => (k_here; (with_reducible show wpAny _ _ _ _ _ (Shared.mk _ _ _ (_ + _) _)); refine toks_all ?_; intro tk; (try dsimp only))
  k_with "call ref" => (k_here; (with_reducible show wpAny _ _ (call (Value.ref 94) [Value.str _ _]) _ _ _); k_dflt (refine' tellV_use (fspath_str _ _ _ _ _ _ _) (by k_asm) (by k_asm) (by k_asm) (by k_asm) (by k_asm) (by first | exact rfl | assumption) (by ktr_room) (by ktr_units) ?_); intro h9 tk9 F9 N9; (try dsimp only); (try k_fold))
  trivial

theorem splitroot_c (w : World) (mean : ExcName → Option Value) (mg mb : Str → Option Value) (x : Str) (t : Tok) (news : Led) (hx : x.length ≤ 4096) (h1 : (Txt.slice x none (some 1) != Str.ofString "/") = false) (h2 : (Txt.slice x (some 1) (some 2) != Str.ofString "/") = true) :
    Tell w mean mg mb 2 16 122 [.str x t] news (fun v n' => ∃ a t1 t2 t3, v = .ref a ∧ n' = (a, { cls := .type "tuple", data := .seq #[.str (Str.ofString "") t1, .str (Str.ofString "/") t2, .str (Txt.slice x (some 1) none) t3] }) :: news) := by
  unfold Tell
  k_fill
  intro dp un gd cn cs a ccd cl outer A₀ base h₀ L m
  intro s Q E B F X N T hk hdp hun hret
  refine wpAny_call ?_
  k_dflt ktr_enter
  refine wpAny_noRaise ?_
  rename Fr h₀ _ _ _ => FG0
  rename Fr _ _ _ _ => F90
  have F91 := fr_map F90 (look_one (Str.ofString "p") (.str x t))
  clear F90
  k_steps
  all_goals first | exact (bf (by assumption) h1).elim | exact (bf h2 (by assumption)).elim | skip
  all_goals exact hret _ _ _ _ ⟨_, _, _, _, rfl, rfl⟩ (by k_asm) (by k_asm)
theorem lines_Str32 : True := by
  k_with "call ref" => (k_here; (with_reducible show wpAny _ _ (call (Value.ref 122) [Value.str _ _]) _ _ _); k_dflt (refine' tell_use (splitroot_c _ _ _ _ _ _ _ (by assumption) (by assumption) (by assumption)) (by k_asm) (by k_asm) (by k_asm) (by k_asm) (by k_asm) (by first | exact rfl | assumption) (by ktr_room) (by ktr_units) ?_); intro v9 n9 h9 tk9 hp9 F9 N9; obtain ⟨a9, t91, t92, t93, e91, e92⟩ := hp9; subst e91 e92; (try dsimp only); (try k_fold))
  k_with "exec For Name Name cons nil" => (k_here; (rename Fr _ _ _ _ => lF'); (with_unfolding_all refine' For_invVF lF' (by exact rfl) (by exact rfl) ?_; k_whole))
  k_with "pyIter ref" => (refine Held.mk ?_)
  k_with "k_all" => (first | exact allLt_ne (by assumption) | (intro p9 hp9; have h9 := ktn_ltOf (by assumption) p9 hp9; first | exact Nat.ne_of_lt h9 | exact Nat.ne_of_gt h9 | omega))
  k_with "truthy ref" => (k_here; k_dflt (first | (refine' truthyNil (by k_asm) (by k_mem) ?_) | (refine' truthyApp (by k_asm) (by k_mem) (by k_extra "om") ?_)))
  k_with "call builtin:list.append" => (k_here; k_dflt (refine' appendL (by k_asm) (by k_asm) (by k_upd) (by (simp only [List.length_append, List.length_cons, List.length_nil]; omega)) ?_; k_whole); intro h' F' N'; (try k_sweep))
  k_with "call builtin:list.pop" => (k_here; k_dflt (refine' popL (by k_asm) (by k_asm) (by k_upd) (by k_extra "om") ?_; k_whole); intro h' F' N'; (try k_sweep))
  k_with "subscriptTail Name UnaryOp ref int" => (k_here; (with_reducible show wpAny _ _ (subscriptTail _ _ (Value.ref _) (Value.int _ _)) _ _ _); k_dflt (refine' lastApp (by k_asm) (by k_mem) (by k_extra "om") ?_ (by with_unfolding_all rfl)))
  k_with "call builtin:str.join" => (k_here; k_dflt (refine' join_listW (by exact ⟨_, News.get (by k_asm) (by k_mem), rfl, _, rfl⟩) (by (simp only [List.toList_toArray]; assumption)) (by decide) (by assumption) ?_))
  trivial

noncomputable def normStep (acc : List Str) (c : Str) : List Str :=
  if c = Str.ofString "" ∨ c = Str.ofString "." then acc
  else if c ≠ Str.ofString ".." ∨ (acc ≠ [] ∧ acc.getLast? = some (Str.ofString "..")) then acc ++ [c] else acc.dropLast
inductive JNorm (m₀ : Str → Option Value) (nc lc : Addr) (l : List (Str × Tok)) (tl : Led) (i : Nat) (m₁ : Str → Option Value) (n : Led) : Prop
  | mk (vs : List Value) (c : Nat) (xs : List Str) (u : Option Value)
    (hz0 : StrsAre vs xs)
    (hz1 : xs = ((l.map (·.1)).take i).foldl normStep [])
    (hz2 : n = (nc, W.listOf vs.toArray c) :: (lc, { cls := .type "list", data := .seq (strValues l).toArray }) :: tl)
    (hz3 : m₁ = fun y => if y = Str.ofString "comp" then u else m₀ y)
theorem normStep_len (acc : List Str) (c : Str) : (normStep acc c).length ≤ acc.length + 1 := by
  unfold normStep
  split
  · omega
  · split
    · simp
    · simp; omega
theorem normFold_len' (l : List Str) : ∀ acc, (l.foldl normStep acc).length ≤ acc.length + l.length := by
  induction l with
  | nil => intro acc; simp
  | cons c l ih => intro acc; have h1 := ih (normStep acc c); have h2 := normStep_len acc c; simp only [List.foldl_cons, List.length_cons]; omega
theorem normFold_len {l : List Str} (h : l.length ≤ 8192) (i : Nat) : ((l.take i).foldl normStep []).length ≤ 8192 := by
  have h1 := normFold_len' (l.take i) []
  have h2 : (l.take i).length ≤ l.length := by simp; omega
  simp only [List.length_nil] at h1; omega
section
variable {y q : Str} {a ps : List Str}
theorem str_nil {y : Str} : (y.length : Int) = 0 ↔ y = Str.ofString "" := by
  constructor
  · intro h
    have h1 : y.cps.size = 0 := by have : y.length = y.cps.size := rfl; omega
    have h2 : y.cps = #[] := Array.eq_empty_of_size_eq_zero h1
    cases y; simp at h2; subst h2; rfl
  · rintro rfl; rfl
theorem ns1 (h : (y.length : Int) = 0) : a = normStep a y := by unfold normStep; rw [if_pos (.inl (str_nil.mp h))]
theorem ns2 (h : (y == Str.ofString ".") = true) : a = normStep a y := by unfold normStep; rw [if_pos (.inr (by simpa using h))]
theorem ns_off (h0 : (y.length : Int) ≠ 0) (h1 : (y == Str.ofString ".") = false) : ¬ (y = Str.ofString "" ∨ y = Str.ofString ".") := by
  rintro (h | h)
  · exact h0 (str_nil.mpr h)
  · rw [h] at h1; simp at h1
theorem ns3 (h0 : (y.length : Int) ≠ 0) (h1 : (y == Str.ofString ".") = false) (h2 : (y != Str.ofString "..") = true) : a ++ [y] = normStep a y := by
  unfold normStep; rw [if_neg (ns_off h0 h1), if_pos (.inl (by simpa using h2))]
theorem ns4 (h0 : (y.length : Int) ≠ 0) (h1 : (y == Str.ofString ".") = false) (h3 : (q == Str.ofString "..") = true) : ps ++ [q] ++ [y] = normStep (ps ++ [q]) y := by
  unfold normStep; rw [if_neg (ns_off h0 h1), if_pos (.inr ⟨by simp, by simpa using h3⟩)]
theorem ns5 (h0 : (y.length : Int) ≠ 0) (h1 : (y == Str.ofString ".") = false) (h2 : (y != Str.ofString "..") = false) (h3 : (q == Str.ofString "..") = false) : ps = normStep (ps ++ [q]) y := by
  unfold normStep; rw [if_neg (ns_off h0 h1), if_neg]
  · simp
  · rintro (h | ⟨_, h⟩)
    · simp at h2; exact h h2
    · simp at h h3; exact h3 h
theorem ns6 (h0 : (y.length : Int) ≠ 0) (h1 : (y == Str.ofString ".") = false) (h2 : (y != Str.ofString "..") = false) : [] = normStep [] y := by
  unfold normStep; rw [if_neg (ns_off h0 h1), if_neg]
  · rfl
  · rintro (h | ⟨h, _⟩)
    · simp at h2; exact h h2
    · exact h rfl
end
theorem jnorm_next {m₀ : Str → Option Value} {nc lc : Addr} {l : List (Str × Tok)} {tl : Led} {i : Nat} {vs' : List Value} {xs xs' : List Str} {c' : Nat} {y : Str} {v u : Option Value}
    (hy : (l.map (·.1))[i]? = some y) (hxs : xs = ((l.map (·.1)).take i).foldl normStep []) (hS' : StrsAre vs' xs') (hx' : xs' = normStep xs y) :
    JNorm m₀ nc lc l tl (i + 1) (fun y => if y = Str.ofString "comp" then v else if y = Str.ofString "comp" then u else m₀ y) ((nc, W.listOf vs'.toArray c') :: (lc, { cls := .type "list", data := .seq (strValues l).toArray }) :: tl) := by
  refine ⟨vs', c', xs', v, hS', ?_, rfl, ifif _ _ _ _⟩
  rw [List.take_add_one, hy]
  simp only [Option.toList_some, List.foldl_append, List.foldl_cons, List.foldl_nil]
  rw [hx', hxs]
theorem strAt {l : List (Str × Tok)} {i : Nat} {v : Value} (h : (strValues l)[i]? = some v) : ∃ y t, (l.map (·.1))[i]? = some y ∧ v = .str y t := by
  unfold strValues at h
  rw [List.getElem?_map] at h
  cases e : l[i]? with
  | none => rw [e] at h; cases h
  | some p => rw [e] at h; cases h; exact ⟨p.1, p.2, by rw [List.getElem?_map, e]; rfl, rfl⟩
theorem norm_iter {prog : Program} {w : World} {A : Around} {E : Value → Shared → Prop} {s : Shared} {env : Env} {h₀ : Heap} {body : List Stmt} {Q : Flow → Shared → Prop}
    {nc lc : Addr} {l : List (Str × Tok)} {tl : Led} {m : Str → Option Value} (hm : m (Str.ofString "comp") = none)
    (hh : A.handled = none) (F : Fr h₀ env.locals s.heap m) (N : News h₀ env.locals s.heap ((nc, W.listOf #[] 0) :: (lc, { cls := .type "list", data := .seq (strValues l).toArray }) :: tl))
    (turn : TurnOf prog w A E s env h₀ (Str.ofString "comp") body Q (strValues l).length (fun i v => (strValues l)[i]? = some v) (JNorm m nc lc l tl)) (done : DoneOf s env h₀ Q (strValues l).length (JNorm m nc lc l tl)) :
    wpAny (model prog w) A (pyIter (.ref lc)) (fun it s₂ => LoopAtV prog w A h₀ env (Str.ofString "comp") body Q E it s₂) E s := by
  refine iterList (JNorm m nc lc l tl) hh F N (.tail _ (.head _)) rfl rfl ⟨[], 0, [], none, .nil, by simp, by simp [W.listOf], ?_⟩ ?_ turn done
  · funext y; by_cases h : y = Str.ofString "comp"
    · simp [h, hm]
    · simp [h]
  · intro i m n hp93
    refine Classical.byContradiction fun hn9 => ?_
    obtain ⟨vs, c, xs, u, _, _, rfl, _⟩ := hp93
    refine hn9 ?_
    clear hn9
    exact .tail _ (.head _)
noncomputable def normC (x : Str) : List Str := (Txt.split (Txt.slice x (some 1) none) (Str.ofString "/")).foldl normStep []
noncomputable def normF (x : Str) : Str := Str.ofString "/" ++ Txt.join (Str.ofString "/") (normC x)
theorem len63 {x : Str} (h : x.length ≤ 4096) : (x.length : Int) < 9223372036854775808 := by omega
theorem lines_Str33 : True := by
  k_with "truthy str" => (k_here; (with_reducible show wpAny _ _ (truthy (Value.str _ _)) _ _ _); refine PyProof.Rows.SBL.truthy (by first | exact len63 (by with_reducible assumption) | omega) ?_)
  trivial

theorem normpath_c (w : World) (mean : ExcName → Option Value) (mg mb : Str → Option Value) (x : Str) (t : Tok) (news : Led) (hx : x.length ≤ 4096) (hx0 : (x.length : Int) ≠ 0) (hsp : (Txt.split (Txt.slice x (some 1) none) (Str.ofString "/")).length ≤ 8192)
    (hjw : ((normC x).map (·.length)).sum + (normC x).length ≤ 1048576) (hjl : (Txt.join (Str.ofString "/") (normC x)).length ≤ 4096)
    (h1 : (Txt.slice x none (some 1) != Str.ofString "/") = false) (h2 : (Txt.slice x (some 1) (some 2) != Str.ofString "/") = true) :
    Tell w mean mg mb 3 24 136 [.str x t] news (fun v n' => n' = news ∧ ∃ t, v = .str (normF x) t) := by
  unfold Tell
  k_fill
  intro dp un gd cn cs a ccd cl outer A₀ base h₀ L m
  intro s Q E B F X N T hk hdp hun hret
  refine wpAny_call ?_
  k_dflt ktr_enter
  refine wpAny_noRaise ?_
  rename Fr h₀ _ _ _ => FG0
  rename Fr _ _ _ _ => F90
  have F91 := fr_map F90 (look_one (Str.ofString "path") (.str x t))
  clear F90
  k_steps
  all_goals (try (exfalso; omega))
  · refine Held.of ?_
    rename Fr _ _ _ _ => F1
    rename News _ _ _ _ => N1
    rename ∀ a : Str, a ∈ _ → a.length ≤ _ => hall
    rename List.map _ _ = Txt.split _ _ => hsplit
    rw [← hsplit] at hsp
    k_dflt (refine norm_iter rfl rfl F1 N1 ?turn ?done)
    case turn =>
      intro i v m₁ news₁ h tk I io hi hP hp910 hne F₁ N₁
      refine Classical.byContradiction fun hn9 => ?_
      obtain ⟨vs, c, xs, u, hS, hxs, rfl, rfl⟩ := hp910
      refine hn9 ?_
      clear hn9
      refine Classical.byContradiction fun hn9 => ?_
      obtain ⟨y, ty, hy, rfl⟩ := strAt hP
      refine hn9 ?_
      clear hn9
      have hyl : y.length ≤ 4096 := Nat.le_trans (Nat.le_trans (hall y (List.mem_of_getElem? hy)) (PyProof.Txt.length_slice_le _ _ _)) hx
      have hvl := strs_len hS
      have hvx : xs.length ≤ 8192 := by rw [hxs]; exact normFold_len hsp _
      have hne' := hne
      simp only [List.forall_mem_cons] at hne
      refine Classical.byContradiction fun hn9 => ?_
      obtain ⟨hI1, hI2, hI3⟩ := hne
      refine hn9 ?_
      clear hn9
      replace hI1 := neN hI1
      replace hI2 := neN hI2
      have hvl2 : vs.length ≤ 8192 := by omega
      rcases strs_last hS with ⟨rfl, rfl⟩ | ⟨p, ps, q, tq, rfl, rfl, hps⟩
      all_goals (try simp only [List.length_append, List.length_cons, List.length_nil] at hvl2)
      all_goals (clear F1 N1 hvl hvx)
      all_goals k_steps
      all_goals (try dsimp only)
      all_goals refine TurnEnd.fin (by first | exact .inl rfl | exact .inr rfl) (by k_asm) (by k_asm) ?_ (jnorm_next hy hxs ?_ (by first
        | exact ns1 (by assumption) | exact ns2 (by assumption) | exact ns6 (by assumption) (by assumption) (by assumption) | exact ns5 (by assumption) (by assumption) (by assumption) (by assumption) | exact ns4 (by assumption) (by assumption) (by assumption) | exact ns3 (by assumption) (by assumption) (by assumption)))
      all_goals first | exact hS | exact hps | exact strs_app hS (.cons _ _ .nil) | (simp only [List.forall_mem_cons]; exact ⟨by simpa using hI1, by simpa using hI2, hI3⟩) | skip
    case done =>
      intro m₁ news₁ h tk hp94 F₁ N₁
      refine Classical.byContradiction fun hn9 => ?_
      obtain ⟨vs, c, xs, u, hS, hxs, rfl, rfl⟩ := hp94
      refine hn9 ?_
      clear hn9
      clear F1 N1
      rw [List.take_of_length_le (by simp [strValues])] at hxs
      have hnc : normC x = xs := by unfold normC; rw [← hsplit, ← hxs]
      have hnf : normF x = Str.ofString "/" ++ Txt.join (Str.ofString "/") xs := by unfold normF; rw [hnc]
      rw [hnc] at hjw hjl
      rw [hnf] at hret
      dsimp only
      k_steps
      all_goals exact hret _ _ _ _ ⟨rfl, _, rfl⟩ (by k_asm) (cb_drop (by assumption) (by kcj_all))
end Mine
-- Sort1
open PySem PySem.W PySem.Calls PyProof.Rows
namespace Mine


theorem lines_Sort11 : True := by
  k_with_none
  k_with "k_ne" => (first | with_reducible assumption | exact Ne.symm (by with_reducible assumption) | (refine neN ?_; (try dsimp only); first | with_reducible assumption | exact Ne.symm (by with_reducible assumption) | exact Nat.ne_of_lt (by with_reducible assumption) | exact Nat.ne_of_gt (by with_reducible assumption) | exact nl0 (by with_reducible assumption) | exact ng0 (by with_reducible assumption) | exact nl1 (by with_reducible assumption) | exact ng1 (by with_reducible assumption) | exact nl2 (by with_reducible assumption) | exact ng2 (by with_reducible assumption) | exact nl3 (by with_reducible assumption) | exact ng3 (by with_reducible assumption) | exact nl4 (by with_reducible assumption) | exact ng4 (by with_reducible assumption) | exact nl5 (by with_reducible assumption) | exact ng5 (by with_reducible assumption) | exact nl6 (by with_reducible assumption) | exact ng6 (by with_reducible assumption) | exact nl7 (by with_reducible assumption) | exact ng7 (by with_reducible assumption) | exact nl8 (by with_reducible assumption) | exact ng8 (by with_reducible assumption) | exact nl9 (by with_reducible assumption) | exact ng9 (by with_reducible assumption) | omega))
  k_with "room" => (first | exact room0 (by with_reducible assumption) | exact room1 (by with_reducible assumption) (by decide) | exact room2 (by with_reducible assumption) (by decide) | exact room3 (by with_reducible assumption) (by decide))
  k_with "units" => (first | exact unit0 (by with_reducible assumption) | exact unit1 (by with_reducible assumption) (by decide) | exact unit2 (by with_reducible assumption) (by decide) | exact unit3 (by with_reducible assumption) (by decide))
  k_with "om" => (first | with_reducible assumption | with_reducible exact le_lit (by with_reducible assumption) (by decide) | with_reducible exact add_lit (by with_reducible assumption) (by with_reducible assumption) (by with_reducible assumption) (by decide) | with_reducible exact lt_lel (by with_reducible assumption) (by decide) | with_reducible exact sum_lit (by with_reducible assumption) (by with_reducible assumption) (by decide) | with_reducible exact suc_lit (by with_reducible assumption) (by decide) | with_reducible exact lt_lit (by with_reducible assumption) (by decide) | with_reducible exact le_ltl (by with_reducible assumption) (by decide) | with_reducible exact ige_lit (by with_reducible assumption) (by decide) | with_reducible exact ile_lit (by with_reducible assumption) (by decide) | with_reducible exact ilt_lit (by with_reducible assumption) (by decide) | omega)
  k_with "execs cons" => (k_here; k_fold)
  k_with "execs cons" => (k_here; (with_reducible show wpAny _ _ _ _ _ (Shared.mk _ _ _ (_ + _) _)); refine toks_all ?_; intro tk; (try dsimp only))
  k_with "execs nil" => (k_here; (with_reducible show wpAny _ _ _ _ _ (Shared.mk _ _ _ (_ + _) _)); refine toks_all ?_; intro tk; (try dsimp only))
  k_with "eval BinOp" => (k_here; k_fold)
  k_with "eval Call Attribute" => (k_here; k_fold)
  k_with "eval Call Name" => (k_here; k_fold)
  k_with "eval Call" => (k_here; k_fold)
  k_with "eval Subscript" => (k_here; k_fold)
  k_with "eval Compare" => (k_here; k_fold)
  k_with "eval IfExp" => (k_here; k_fold)
  k_with "eval List" => (k_here; k_fold)
  k_with "eval Tuple" => (k_here; k_fold)
  k_with "k_all" => (first | exact allLt_ne (by assumption) | assumption | (intro p9 hp9; refine neN ?_; have h9 := ltN (ktn_ltOf (by first | assumption | exact (show _ ∧  AllLt _ _ by assumption).2 | exact (show _ ∧ _ ∧  AllLt _ _ by assumption).2.2 | exact (show _ ∧ _ ∧ _ ∧  AllLt _ _ by assumption).2.2.2 | exact (show _ ∧ _ ∧ _ ∧ _ ∧  AllLt _ _ by assumption).2.2.2.2 | exact (show _ ∧ _ ∧ _ ∧ _ ∧ _ ∧  AllLt _ _ by assumption).2.2.2.2.2 | exact (show _ ∧ _ ∧ _ ∧ _ ∧ _ ∧ _ ∧  AllLt _ _ by assumption).2.2.2.2.2.2 | exact (show _ ∧ _ ∧ _ ∧ _ ∧ _ ∧ _ ∧ _ ∧  AllLt _ _ by assumption).2.2.2.2.2.2.2 | exact (show _ ∧ _ ∧ _ ∧ _ ∧ _ ∧ _ ∧ _ ∧ _ ∧  AllLt _ _ by assumption).2.2.2.2.2.2.2.2 | exact (show _ ∧ _ ∧ _ ∧ _ ∧ _ ∧ _ ∧ _ ∧ _ ∧ _ ∧  AllLt _ _ by assumption).2.2.2.2.2.2.2.2.2 | exact (show _ ∧ _ ∧ _ ∧ _ ∧ _ ∧ _ ∧ _ ∧ _ ∧ _ ∧ _ ∧  AllLt _ _ by assumption).2.2.2.2.2.2.2.2.2.2) p9 hp9); first | exact Nat.ne_of_lt h9 | exact Nat.ne_of_gt h9 | omega))
  k_with "call builtin:dict.get" => (k_here; k_dflt (first | (refine' getNone (by k_asm) (by k_mem) (by k_asm) (by assumption) (by assumption) ?_) | (refine' getSome (by k_asm) (by k_mem) (by k_asm) (by assumption) (by assumption) ?_)))
  k_with "setItem ref str" => (k_here; k_dflt (refine' kda_set (knd := PySem.strKind _ _) (by k_asm) (by k_asm) (by k_updF) (by k_asm) (strKind_is _ _ _ _) (by rw [sizeLine_eq]; omega) ?_); intro h' o' F' N' hd'; (try dsimp only at N'))
  trivial

noncomputable abbrev PR : Program := PySem.Challenge.rw_pd0160_01.row.prog
/-- a NodeInfo object -/
noncomputable abbrev infoO (dx : Addr) (nv npv : Value) (sl : Addr) : Obj := { cls := .ref 155, dict := some dx, slots := #[some nv, some npv, some (.ref sl)] }
theorem get_nodeinfo_new (w : World) (mean : ExcName → Option Value) (mg mb : Str → Option Value) (x : Str) (t : Tok) (self sd d : Addr) (k1 k2 k3 k4 : Tok) (rv np nf : Value) (ep : Nat) (kvs : List (Str × Value)) (od : Obj) (hod : od.IsDictOf (strKind PySem.Challenge.rw_pd0160_01.row.prog w) kvs) (hkv : valueAt kvs x = none) (tl : Led)
   (hdm : (d == sysModules) = false) (hkl : kvs.length ≤ 1000) (h1 : self ≠ d) (h2 : sd ≠ d) (h3 : self ≠ sd) (hs1 : ∀ p ∈ tl, p.1 ≠ d)  :
    Tell w mean mg mb 3 24 195 [.ref self, .str x t] ((self, instObj 252 sd) :: (sd, dictOf [⟨PyData.keyHash w.params (Str.ofString "_node2info"), .str (Str.ofString "_node2info") k1, .ref d⟩, ⟨PyData.keyHash w.params (Str.ofString "_ready_nodes"), .str (Str.ofString "_ready_nodes") k2, rv⟩, ⟨PyData.keyHash w.params (Str.ofString "_npassedout"), .str (Str.ofString "_npassedout") k3, np⟩, ⟨PyData.keyHash w.params (Str.ofString "_nfinished"), .str (Str.ofString "_nfinished") k4, nf⟩] ep) :: (d, od) :: tl)
      (fun v n' => ∃ ia dx sl npt od', v = .ref ia ∧ n' = (ia, infoO dx (.str x t) (.int 0 npt) sl) :: (dx, dictOf [] 0) :: (sl, W.listOf #[] 0) :: (self, instObj 252 sd) :: (sd, dictOf [⟨PyData.keyHash w.params (Str.ofString "_node2info"), .str (Str.ofString "_node2info") k1, .ref d⟩, ⟨PyData.keyHash w.params (Str.ofString "_ready_nodes"), .str (Str.ofString "_ready_nodes") k2, rv⟩, ⟨PyData.keyHash w.params (Str.ofString "_npassedout"), .str (Str.ofString "_npassedout") k3, np⟩, ⟨PyData.keyHash w.params (Str.ofString "_nfinished"), .str (Str.ofString "_nfinished") k4, nf⟩] ep) :: (d, od') :: tl ∧
        od'.IsDictOf (strKind PySem.Challenge.rw_pd0160_01.row.prog w) (stored kvs x (.ref ia)) ∧ (self < dx ∧ sd < dx ∧ d < dx ∧ AllLt dx tl) ∧ dx < ia ∧ ia < sl) := by
  unfold Tell
  k_fill
  intro dp un gd cn cs a ccd cl outer A₀ base h₀ L m
  intro s Q E B F X N T hk hdp hun hret
  refine wpAny_call ?_
  k_dflt ktr_enter
  refine wpAny_noRaise ?_
  rename Fr h₀ _ _ _ => FG0
  rename Fr _ _ _ _ => F90
  have F91 := fr_map F90 (look_two (Str.ofString "node") (.str x t) (Str.ofString "self") (.ref self))
  clear F90
  k_steps
  all_goals refine hret _ _ _ _ ⟨_, _, _, _, _, rfl, rfl, ?_, ?_, ?_, ?_⟩ (by k_asm) (cb_drop (by assumption) (by kcj_all))
  · assumption
  · assumption
  · assumption
  · exact And.left (by assumption)
theorem get_nodeinfo_old (w : World) (mean : ExcName → Option Value) (mg mb : Str → Option Value) (x : Str) (t : Tok) (self sd d : Addr) (k1 k2 k3 k4 : Tok) (rv np nf : Value) (ep : Nat) (kvs : List (Str × Value)) (od : Obj) (hod : od.IsDictOf (strKind PySem.Challenge.rw_pd0160_01.row.prog w) kvs) (i : Addr) (hkv : valueAt kvs x = some (.ref i)) (tl : Led)
   (hdm : (d == sysModules) = false) :
    Tell w mean mg mb 3 24 195 [.ref self, .str x t] ((self, instObj 252 sd) :: (sd, dictOf [⟨PyData.keyHash w.params (Str.ofString "_node2info"), .str (Str.ofString "_node2info") k1, .ref d⟩, ⟨PyData.keyHash w.params (Str.ofString "_ready_nodes"), .str (Str.ofString "_ready_nodes") k2, rv⟩, ⟨PyData.keyHash w.params (Str.ofString "_npassedout"), .str (Str.ofString "_npassedout") k3, np⟩, ⟨PyData.keyHash w.params (Str.ofString "_nfinished"), .str (Str.ofString "_nfinished") k4, nf⟩] ep) :: (d, od) :: tl) (fun v n' => n' = ((self, instObj 252 sd) :: (sd, dictOf [⟨PyData.keyHash w.params (Str.ofString "_node2info"), .str (Str.ofString "_node2info") k1, .ref d⟩, ⟨PyData.keyHash w.params (Str.ofString "_ready_nodes"), .str (Str.ofString "_ready_nodes") k2, rv⟩, ⟨PyData.keyHash w.params (Str.ofString "_npassedout"), .str (Str.ofString "_npassedout") k3, np⟩, ⟨PyData.keyHash w.params (Str.ofString "_nfinished"), .str (Str.ofString "_nfinished") k4, nf⟩] ep) :: (d, od) :: tl) ∧ v = .ref i) := by
  unfold Tell
  k_fill
  intro dp un gd cn cs a ccd cl outer A₀ base h₀ L m
  intro s Q E B F X N T hk hdp hun hret
  refine wpAny_call ?_
  k_dflt ktr_enter
  refine wpAny_noRaise ?_
  rename Fr h₀ _ _ _ => FG0
  rename Fr _ _ _ _ => F90
  have F91 := fr_map F90 (look_two (Str.ofString "node") (.str x t) (Str.ofString "self") (.ref self))
  clear F90
  k_steps
  all_goals exact hret _ _ _ _ ⟨rfl, rfl⟩ (by k_asm) (by k_asm)
end Mine
-- Sort2
open PySem PySem.W PySem.Calls PyProof.Rows
namespace Mine

structure Info where
  name : Str
  nt : Tok
  ia : Addr
  dx : Addr
  sl : Addr
  np : Int
  npt : Tok
  ss : List (Str × Tok)
  sc : Nat
noncomputable def Info.objs (i : Info) : Led := [(i.ia, infoO i.dx (.str i.name i.nt) (.int i.np i.npt) i.sl), (i.dx, dictOf [] 0), (i.sl, W.listOf (strValues i.ss).toArray i.sc)]
noncomputable def Info.kv (i : Info) : Str × Value := (i.name, .ref i.ia)
noncomputable def Info.row (i : Info) : Str × Int × List Str := (i.name, i.np, i.ss.map (·.1))
noncomputable def objsOf (l : List Info) : Led := l.flatMap Info.objs
structure Srt where
  self : Addr
  sd : Addr
  d : Addr
  k1 : Tok
  k2 : Tok
  k3 : Tok
  k4 : Tok
  rv : Value
  npo : Value
  nfi : Value
  od : Obj
  infos : List Info
noncomputable abbrev Srt.led (w : World) (S : Srt) (tl : Led) : Led :=
  (S.self, instObj 252 S.sd) :: (S.sd, dictOf [⟨PyData.keyHash w.params (Str.ofString "_node2info"), .str (Str.ofString "_node2info") S.k1, .ref S.d⟩, ⟨PyData.keyHash w.params (Str.ofString "_ready_nodes"), .str (Str.ofString "_ready_nodes") S.k2, S.rv⟩, ⟨PyData.keyHash w.params (Str.ofString "_npassedout"), .str (Str.ofString "_npassedout") S.k3, S.npo⟩, ⟨PyData.keyHash w.params (Str.ofString "_nfinished"), .str (Str.ofString "_nfinished") S.k4, S.nfi⟩] 4) :: (S.d, S.od) :: (objsOf S.infos ++ tl)
noncomputable def ND (l : Led) : Prop := (l.map (·.1)).Nodup
theorem nd_cons {p : Addr × Obj} {l : Led} : ND (p :: l) ↔ (∀ q ∈ l, q.1 ≠ p.1) ∧ ND l := by
  unfold ND
  rw [List.map_cons, List.nodup_cons]
  constructor
  · intro hp90
    refine Classical.byContradiction fun hn9 => ?_
    obtain ⟨h1, h2⟩ := hp90
    refine hn9 ?_
    clear hn9
    exact ⟨fun q hq e => h1 (by rw [← e]; exact List.mem_map_of_mem hq), h2⟩
  · intro hp90
    refine Classical.byContradiction fun hn9 => ?_
    obtain ⟨h1, h2⟩ := hp90
    refine hn9 ?_
    clear hn9
    refine ⟨fun hm => ?_, h2⟩
    refine Classical.byContradiction fun hn9 => ?_
    obtain ⟨q, hq, e⟩ := List.mem_map.mp hm
    refine hn9 ?_
    clear hn9
    exact h1 q hq e
theorem ND.perm {l l' : Led} (h : ND l) (p : l.Perm l') : ND l' := by
  unfold ND at h ⊢
  exact (List.Perm.nodup_iff (p.map (fun q : Addr × Obj => q.1))).mp h
theorem nd_three {R : Led} {ia dx sl : Addr} {a b c : Obj} (h : ND R) (hlt : ∀ q ∈ R, q.1 < dx) (h1 : dx < ia) (h2 : ia < sl) : ND ((ia, a) :: (dx, b) :: (sl, c) :: R) := by
  refine nd_cons.mpr ⟨?_, nd_cons.mpr ⟨?_, nd_cons.mpr ⟨?_, h⟩⟩⟩
  · intro q hq
    rcases List.mem_cons.mp hq with rfl | hq
    · exact Nat.ne_of_lt h1
    · rcases List.mem_cons.mp hq with rfl | hq
      · exact Nat.ne_of_gt h2
      · exact Nat.ne_of_lt (Nat.lt_trans (hlt q hq) h1)
  · intro q hq
    rcases List.mem_cons.mp hq with rfl | hq
    · exact Nat.ne_of_gt (Nat.lt_trans h1 h2)
    · exact Nat.ne_of_lt (hlt q hq)
  · intro q hq
    exact Nat.ne_of_lt (Nat.lt_trans (hlt q hq) (Nat.lt_trans h1 h2))
structure Srt.Ok (w : World) (S : Srt) : Prop where
  dict : S.od.IsDictOf (strKind PySem.Challenge.rw_pd0160_01.row.prog w) (S.infos.map Info.kv)
  low : (S.d == sysModules) = false
  nd : (S.infos.map (·.name)).Nodup
theorem objs_split (A B : List Info) (i : Info) : objsOf (A ++ i :: B) = objsOf A ++ (i.objs ++ objsOf B) := by
  unfold objsOf; simp
theorem objs_app (A B : List Info) : objsOf (A ++ B) = objsOf A ++ objsOf B := by unfold objsOf; simp
theorem perm_split (X tl : Led) (A B : List Info) (i : Info) : (X ++ (objsOf (A ++ i :: B) ++ tl)).Perm (i.objs ++ (X ++ (objsOf (A ++ B) ++ tl))) := by
  rw [objs_split, objs_app]
  have h := List.perm_append_comm_assoc (X ++ objsOf A) i.objs (objsOf B ++ tl)
  simpa only [List.append_assoc] using h
theorem Tell.weaken {w : World} {mean : ExcName → Option Value} {mg mb : Str → Option Value} {D U : Nat} {f : Addr} {args : List Value} {news : Led} {Post Post' : Value → Led → Prop}
    (C : Tell w mean mg mb D U f args news Post) (h : ∀ v n, Post v n → ∃ n', Post' v n' ∧ ∀ p ∈ n', p ∈ n) : Tell w mean mg mb D U f args news Post' := by
  intro dp un gd cn cs a ccd cl outer A₀ base h₀ L m s Q E B F X N T hk hdp hun hret
  refine C dp un gd cn cs a ccd cl outer A₀ base h₀ L m s Q E B F X N T hk hdp hun ?_
  intro v n h' tk' hp F' N'
  refine Classical.byContradiction fun hn9 => ?_
  obtain ⟨n', hp', hs⟩ := h v n hp
  refine hn9 ?_
  clear hn9
  exact hret v n' h' tk' hp' F' (cb_drop N' hs)
theorem kv_find : ∀ {l : List Info} {x : Str} {v : Value}, valueAt (l.map Info.kv) x = some v → ∃ A i B, l = A ++ i :: B ∧ i.name = x ∧ v = .ref i.ia := by
  intro l
  induction l with
  | nil => intro x v h; cases h
  | cons j l ih =>
    intro x v h
    unfold valueAt at h
    rw [List.map_cons, List.find?_cons] at h
    by_cases e : j.name = x
    · have : decide ((Info.kv j).1 = x) = true := decide_eq_true e
      simp only [this] at h
      cases h
      exact ⟨[], j, l, rfl, e, rfl⟩
    · have : decide ((Info.kv j).1 = x) = false := decide_eq_false e
      simp only [this] at h
      refine Classical.byContradiction fun hn9 => ?_
      obtain ⟨A, i, B, rfl, h1, h2⟩ := ih (x := x) (v := v) h
      refine hn9 ?_
      clear hn9
      exact ⟨j :: A, i, B, rfl, h1, h2⟩
theorem kv_none {l : List Info} {x : Str} (h : valueAt (l.map Info.kv) x = none) : ∀ j ∈ l, j.name ≠ x := by
  intro j hj e
  unfold valueAt at h
  rw [Option.map_eq_none_iff, List.find?_eq_none] at h
  have := h (Info.kv j) (List.mem_map_of_mem hj)
  simp [Info.kv, e] at this
noncomputable def Found (S : Srt) (x : Str) (od' : Obj) (A : List Info) (i : Info) (B : List Info) : Prop :=
  (od' = S.od ∧ S.infos = A ++ i :: B) ∨ ((∀ j ∈ S.infos, j.name ≠ x) ∧ A = S.infos ∧ B = [] ∧ i.np = 0 ∧ i.ss = [])
theorem stored_new {kvs : List (Str × Value)} {x : Str} {v : Value} (h : valueAt kvs x = none) : stored kvs x v = kvs ++ [(x, v)] := by
  unfold stored
  unfold valueAt at h
  rw [Option.map_eq_none_iff, List.find?_eq_none] at h
  rw [if_neg]
  simp only [List.any_eq_true, not_exists]
  intro p hp91
  refine Classical.byContradiction fun hn9 => ?_
  obtain ⟨hp, hq⟩ := hp91
  refine hn9 ?_
  clear hn9
  exact h p hp (by simpa using hq)
theorem get_nodeinfo_c (w : World) (mean : ExcName → Option Value) (mg mb : Str → Option Value) (S : Srt) (x : Str) (t : Tok) (tl : Led) (hS : S.Ok w) (hN : ND (S.led w tl)) (hl : S.infos.length ≤ 1000) :
    Tell w mean mg mb 3 24 195 [.ref S.self, .str x t] (S.led w tl) (fun v n' => ∃ od' A i B, v = .ref i.ia ∧ n' = i.objs ++ ({ S with od := od', infos := A ++ B } : Srt).led w tl ∧ ND n' ∧
      ({ S with od := od', infos := A ++ i :: B } : Srt).Ok w ∧ i.name = x ∧ Found S x od' A i B) := by
  have h1 := nd_cons.mp hN
  have h2 := nd_cons.mp h1.2
  have h3 := nd_cons.mp h2.2
  cases hv : valueAt (S.infos.map Info.kv) x with
  | some v =>
    refine Classical.byContradiction fun hn9 => ?_
    obtain ⟨A, i, B, hi, hx, rfl⟩ := kv_find hv
    refine hn9 ?_
    clear hn9
    refine (get_nodeinfo_old w mean mg mb x t S.self S.sd S.d S.k1 S.k2 S.k3 S.k4 S.rv S.npo S.nfi 4 _ S.od hS.dict i.ia hv _ hS.low).weaken ?_
    intro v n hp92
    refine Classical.byContradiction fun hn9 => ?_
    obtain ⟨rfl, rfl⟩ := hp92
    refine hn9 ?_
    clear hn9
    have hp := perm_split [(S.self, instObj 252 S.sd), (S.sd, dictOf [⟨PyData.keyHash w.params (Str.ofString "_node2info"), .str (Str.ofString "_node2info") S.k1, .ref S.d⟩, ⟨PyData.keyHash w.params (Str.ofString "_ready_nodes"), .str (Str.ofString "_ready_nodes") S.k2, S.rv⟩, ⟨PyData.keyHash w.params (Str.ofString "_npassedout"), .str (Str.ofString "_npassedout") S.k3, S.npo⟩, ⟨PyData.keyHash w.params (Str.ofString "_nfinished"), .str (Str.ofString "_nfinished") S.k4, S.nfi⟩] 4), (S.d, S.od)] tl A B i
    rw [← hi] at hp
    refine ⟨_, ⟨S.od, A, i, B, rfl, rfl, hN.perm hp, ⟨?_, hS.low, ?_⟩, hx, .inl ⟨rfl, hi⟩⟩, fun p h => hp.symm.subset h⟩
    · have := hS.dict
      rw [hi] at this
      exact this
    · have := hS.nd
      rw [hi] at this
      exact this
  | none =>
    refine (get_nodeinfo_new w mean mg mb x t S.self S.sd S.d S.k1 S.k2 S.k3 S.k4 S.rv S.npo S.nfi 4 _ S.od hS.dict hv (objsOf S.infos ++ tl) hS.low (by simpa using hl)
      (fun e => h1.1 _ (.tail _ (.head _)) e.symm) (fun e => h2.1 _ (.head _) e.symm) (fun e => h1.1 _ (.head _) e.symm) h3.1).weaken ?_
    intro v n hp92
    refine Classical.byContradiction fun hn9 => ?_
    obtain ⟨ia, dx, sl, npt, od', rfl, rfl, hd, ⟨l1, l2, l3, l4⟩, l5, l6⟩ := hp92
    refine hn9 ?_
    clear hn9
    refine ⟨_, ⟨od', S.infos, ⟨x, t, ia, dx, sl, 0, npt, [], 0⟩, [], rfl, rfl, ?_, ⟨?_, hS.low, ?_⟩, rfl, .inr ⟨kv_none hv, rfl, rfl, rfl, rfl⟩⟩, ?_⟩
    · have l4' := ktn_ltOf l4
      have hall : ∀ q ∈ ({ S with od := od', infos := S.infos ++ [] } : Srt).led w tl, q.1 < dx := by
        intro q hq
        rw [List.append_nil] at hq
        simp only [List.mem_cons] at hq
        rcases hq with rfl | rfl | rfl | hq
        · exact l1
        · exact l2
        · exact l3
        · exact l4' q hq
      refine nd_three (R := ({ S with od := od', infos := S.infos ++ [] } : Srt).led w tl) ?_ hall l5 l6
      have := hN
      unfold ND at this ⊢
      simpa only [List.map_cons, List.append_nil] using this
    · rw [stored_new hv] at hd
      simpa [Info.kv] using hd
    · rw [List.map_append, List.nodup_append]
      refine ⟨hS.nd, by simp, ?_⟩
      intro a ha b hb e
      refine Classical.byContradiction fun hn9 => ?_
      obtain ⟨j, hj, rfl⟩ := List.mem_map.mp ha
      refine hn9 ?_
      clear hn9
      simp at hb
      exact kv_none hv j hj (e.trans hb)
    · intro p hp
      simpa [Info.objs, strValues] using hp
theorem nd_out0 {tl : Led} (h : ND (tl)) {P : Prop} (k : ND tl → P) : P :=
  k h
theorem nd_out1 {a0 : Addr} {o0 : Obj} {tl : Led} (h : ND ((a0, o0) :: tl)) {P : Prop} (k : (∀ q ∈ tl, q.1 ≠ a0) → ND tl → P) : P :=
  have c := nd_cons.mp h
  nd_out0 c.2 (fun eE => k  (fun q hq => c.1 q (hq)) eE)
theorem nd_out2 {a0 a1 : Addr} {o0 o1 : Obj} {tl : Led} (h : ND ((a0, o0) :: (a1, o1) :: tl)) {P : Prop} (k : a1 ≠ a0 → (∀ q ∈ tl, q.1 ≠ a0) → (∀ q ∈ tl, q.1 ≠ a1) → ND tl → P) : P :=
  have c := nd_cons.mp h
  nd_out1 c.2 (fun eR1 eE => k (c.1 _ (.head _)) (fun q hq => c.1 q (.tail _ hq)) eR1 eE)
theorem nd_out3 {a0 a1 a2 : Addr} {o0 o1 o2 : Obj} {tl : Led} (h : ND ((a0, o0) :: (a1, o1) :: (a2, o2) :: tl)) {P : Prop} (k : a1 ≠ a0 → a2 ≠ a0 → (∀ q ∈ tl, q.1 ≠ a0) → a2 ≠ a1 → (∀ q ∈ tl, q.1 ≠ a1) → (∀ q ∈ tl, q.1 ≠ a2) → ND tl → P) : P :=
  have c := nd_cons.mp h
  nd_out2 c.2 (fun e12 eR1 eR2 eE => k (c.1 _ (.head _)) (c.1 _ (.tail _ (.head _))) (fun q hq => c.1 q (.tail _ (.tail _ hq))) e12 eR1 eR2 eE)
theorem nd_out4 {a0 a1 a2 a3 : Addr} {o0 o1 o2 o3 : Obj} {tl : Led} (h : ND ((a0, o0) :: (a1, o1) :: (a2, o2) :: (a3, o3) :: tl)) {P : Prop} (k : a1 ≠ a0 → a2 ≠ a0 → a3 ≠ a0 → (∀ q ∈ tl, q.1 ≠ a0) → a2 ≠ a1 → a3 ≠ a1 → (∀ q ∈ tl, q.1 ≠ a1) → a3 ≠ a2 → (∀ q ∈ tl, q.1 ≠ a2) → (∀ q ∈ tl, q.1 ≠ a3) → ND tl → P) : P :=
  have c := nd_cons.mp h
  nd_out3 c.2 (fun e12 e13 eR1 e23 eR2 eR3 eE => k (c.1 _ (.head _)) (c.1 _ (.tail _ (.head _))) (c.1 _ (.tail _ (.tail _ (.head _)))) (fun q hq => c.1 q (.tail _ (.tail _ (.tail _ hq)))) e12 e13 eR1 e23 eR2 eR3 eE)
theorem nd_out5 {a0 a1 a2 a3 a4 : Addr} {o0 o1 o2 o3 o4 : Obj} {tl : Led} (h : ND ((a0, o0) :: (a1, o1) :: (a2, o2) :: (a3, o3) :: (a4, o4) :: tl)) {P : Prop} (k : a1 ≠ a0 → a2 ≠ a0 → a3 ≠ a0 → a4 ≠ a0 → (∀ q ∈ tl, q.1 ≠ a0) → a2 ≠ a1 → a3 ≠ a1 → a4 ≠ a1 → (∀ q ∈ tl, q.1 ≠ a1) → a3 ≠ a2 → a4 ≠ a2 → (∀ q ∈ tl, q.1 ≠ a2) → a4 ≠ a3 → (∀ q ∈ tl, q.1 ≠ a3) → (∀ q ∈ tl, q.1 ≠ a4) → ND tl → P) : P :=
  have c := nd_cons.mp h
  nd_out4 c.2 (fun e12 e13 e14 eR1 e23 e24 eR2 e34 eR3 eR4 eE => k (c.1 _ (.head _)) (c.1 _ (.tail _ (.head _))) (c.1 _ (.tail _ (.tail _ (.head _)))) (c.1 _ (.tail _ (.tail _ (.tail _ (.head _))))) (fun q hq => c.1 q (.tail _ (.tail _ (.tail _ (.tail _ hq))))) e12 e13 e14 eR1 e23 e24 eR2 e34 eR3 eR4 eE)
theorem nd_out6 {a0 a1 a2 a3 a4 a5 : Addr} {o0 o1 o2 o3 o4 o5 : Obj} {tl : Led} (h : ND ((a0, o0) :: (a1, o1) :: (a2, o2) :: (a3, o3) :: (a4, o4) :: (a5, o5) :: tl)) {P : Prop} (k : a1 ≠ a0 → a2 ≠ a0 → a3 ≠ a0 → a4 ≠ a0 → a5 ≠ a0 → (∀ q ∈ tl, q.1 ≠ a0) → a2 ≠ a1 → a3 ≠ a1 → a4 ≠ a1 → a5 ≠ a1 → (∀ q ∈ tl, q.1 ≠ a1) → a3 ≠ a2 → a4 ≠ a2 → a5 ≠ a2 → (∀ q ∈ tl, q.1 ≠ a2) → a4 ≠ a3 → a5 ≠ a3 → (∀ q ∈ tl, q.1 ≠ a3) → a5 ≠ a4 → (∀ q ∈ tl, q.1 ≠ a4) → (∀ q ∈ tl, q.1 ≠ a5) → ND tl → P) : P :=
  have c := nd_cons.mp h
  nd_out5 c.2 (fun e12 e13 e14 e15 eR1 e23 e24 e25 eR2 e34 e35 eR3 e45 eR4 eR5 eE => k (c.1 _ (.head _)) (c.1 _ (.tail _ (.head _))) (c.1 _ (.tail _ (.tail _ (.head _)))) (c.1 _ (.tail _ (.tail _ (.tail _ (.head _))))) (c.1 _ (.tail _ (.tail _ (.tail _ (.tail _ (.head _)))))) (fun q hq => c.1 q (.tail _ (.tail _ (.tail _ (.tail _ (.tail _ hq)))))) e12 e13 e14 e15 eR1 e23 e24 e25 eR2 e34 e35 eR3 e45 eR4 eR5 eE)
theorem nd_out7 {a0 a1 a2 a3 a4 a5 a6 : Addr} {o0 o1 o2 o3 o4 o5 o6 : Obj} {tl : Led} (h : ND ((a0, o0) :: (a1, o1) :: (a2, o2) :: (a3, o3) :: (a4, o4) :: (a5, o5) :: (a6, o6) :: tl)) {P : Prop} (k : a1 ≠ a0 → a2 ≠ a0 → a3 ≠ a0 → a4 ≠ a0 → a5 ≠ a0 → a6 ≠ a0 → (∀ q ∈ tl, q.1 ≠ a0) → a2 ≠ a1 → a3 ≠ a1 → a4 ≠ a1 → a5 ≠ a1 → a6 ≠ a1 → (∀ q ∈ tl, q.1 ≠ a1) → a3 ≠ a2 → a4 ≠ a2 → a5 ≠ a2 → a6 ≠ a2 → (∀ q ∈ tl, q.1 ≠ a2) → a4 ≠ a3 → a5 ≠ a3 → a6 ≠ a3 → (∀ q ∈ tl, q.1 ≠ a3) → a5 ≠ a4 → a6 ≠ a4 → (∀ q ∈ tl, q.1 ≠ a4) → a6 ≠ a5 → (∀ q ∈ tl, q.1 ≠ a5) → (∀ q ∈ tl, q.1 ≠ a6) → ND tl → P) : P :=
  have c := nd_cons.mp h
  nd_out6 c.2 (fun e12 e13 e14 e15 e16 eR1 e23 e24 e25 e26 eR2 e34 e35 e36 eR3 e45 e46 eR4 e56 eR5 eR6 eE => k (c.1 _ (.head _)) (c.1 _ (.tail _ (.head _))) (c.1 _ (.tail _ (.tail _ (.head _)))) (c.1 _ (.tail _ (.tail _ (.tail _ (.head _))))) (c.1 _ (.tail _ (.tail _ (.tail _ (.tail _ (.head _)))))) (c.1 _ (.tail _ (.tail _ (.tail _ (.tail _ (.tail _ (.head _))))))) (fun q hq => c.1 q (.tail _ (.tail _ (.tail _ (.tail _ (.tail _ (.tail _ hq))))))) e12 e13 e14 e15 e16 eR1 e23 e24 e25 e26 eR2 e34 e35 e36 eR3 e45 e46 eR4 e56 eR5 eR6 eE)
theorem nd_out8 {a0 a1 a2 a3 a4 a5 a6 a7 : Addr} {o0 o1 o2 o3 o4 o5 o6 o7 : Obj} {tl : Led} (h : ND ((a0, o0) :: (a1, o1) :: (a2, o2) :: (a3, o3) :: (a4, o4) :: (a5, o5) :: (a6, o6) :: (a7, o7) :: tl)) {P : Prop} (k : a1 ≠ a0 → a2 ≠ a0 → a3 ≠ a0 → a4 ≠ a0 → a5 ≠ a0 → a6 ≠ a0 → a7 ≠ a0 → (∀ q ∈ tl, q.1 ≠ a0) → a2 ≠ a1 → a3 ≠ a1 → a4 ≠ a1 → a5 ≠ a1 → a6 ≠ a1 → a7 ≠ a1 → (∀ q ∈ tl, q.1 ≠ a1) → a3 ≠ a2 → a4 ≠ a2 → a5 ≠ a2 → a6 ≠ a2 → a7 ≠ a2 → (∀ q ∈ tl, q.1 ≠ a2) → a4 ≠ a3 → a5 ≠ a3 → a6 ≠ a3 → a7 ≠ a3 → (∀ q ∈ tl, q.1 ≠ a3) → a5 ≠ a4 → a6 ≠ a4 → a7 ≠ a4 → (∀ q ∈ tl, q.1 ≠ a4) → a6 ≠ a5 → a7 ≠ a5 → (∀ q ∈ tl, q.1 ≠ a5) → a7 ≠ a6 → (∀ q ∈ tl, q.1 ≠ a6) → (∀ q ∈ tl, q.1 ≠ a7) → ND tl → P) : P :=
  have c := nd_cons.mp h
  nd_out7 c.2 (fun e12 e13 e14 e15 e16 e17 eR1 e23 e24 e25 e26 e27 eR2 e34 e35 e36 e37 eR3 e45 e46 e47 eR4 e56 e57 eR5 e67 eR6 eR7 eE => k (c.1 _ (.head _)) (c.1 _ (.tail _ (.head _))) (c.1 _ (.tail _ (.tail _ (.head _)))) (c.1 _ (.tail _ (.tail _ (.tail _ (.head _))))) (c.1 _ (.tail _ (.tail _ (.tail _ (.tail _ (.head _)))))) (c.1 _ (.tail _ (.tail _ (.tail _ (.tail _ (.tail _ (.head _))))))) (c.1 _ (.tail _ (.tail _ (.tail _ (.tail _ (.tail _ (.tail _ (.head _)))))))) (fun q hq => c.1 q (.tail _ (.tail _ (.tail _ (.tail _ (.tail _ (.tail _ (.tail _ hq)))))))) e12 e13 e14 e15 e16 e17 eR1 e23 e24 e25 e26 e27 eR2 e34 e35 e36 e37 eR3 e45 e46 e47 eR4 e56 e57 eR5 e67 eR6 eR7 eE)
theorem nd_out9 {a0 a1 a2 a3 a4 a5 a6 a7 a8 : Addr} {o0 o1 o2 o3 o4 o5 o6 o7 o8 : Obj} {tl : Led} (h : ND ((a0, o0) :: (a1, o1) :: (a2, o2) :: (a3, o3) :: (a4, o4) :: (a5, o5) :: (a6, o6) :: (a7, o7) :: (a8, o8) :: tl)) {P : Prop} (k : a1 ≠ a0 → a2 ≠ a0 → a3 ≠ a0 → a4 ≠ a0 → a5 ≠ a0 → a6 ≠ a0 → a7 ≠ a0 → a8 ≠ a0 → (∀ q ∈ tl, q.1 ≠ a0) → a2 ≠ a1 → a3 ≠ a1 → a4 ≠ a1 → a5 ≠ a1 → a6 ≠ a1 → a7 ≠ a1 → a8 ≠ a1 → (∀ q ∈ tl, q.1 ≠ a1) → a3 ≠ a2 → a4 ≠ a2 → a5 ≠ a2 → a6 ≠ a2 → a7 ≠ a2 → a8 ≠ a2 → (∀ q ∈ tl, q.1 ≠ a2) → a4 ≠ a3 → a5 ≠ a3 → a6 ≠ a3 → a7 ≠ a3 → a8 ≠ a3 → (∀ q ∈ tl, q.1 ≠ a3) → a5 ≠ a4 → a6 ≠ a4 → a7 ≠ a4 → a8 ≠ a4 → (∀ q ∈ tl, q.1 ≠ a4) → a6 ≠ a5 → a7 ≠ a5 → a8 ≠ a5 → (∀ q ∈ tl, q.1 ≠ a5) → a7 ≠ a6 → a8 ≠ a6 → (∀ q ∈ tl, q.1 ≠ a6) → a8 ≠ a7 → (∀ q ∈ tl, q.1 ≠ a7) → (∀ q ∈ tl, q.1 ≠ a8) → ND tl → P) : P :=
  have c := nd_cons.mp h
  nd_out8 c.2 (fun e12 e13 e14 e15 e16 e17 e18 eR1 e23 e24 e25 e26 e27 e28 eR2 e34 e35 e36 e37 e38 eR3 e45 e46 e47 e48 eR4 e56 e57 e58 eR5 e67 e68 eR6 e78 eR7 eR8 eE => k (c.1 _ (.head _)) (c.1 _ (.tail _ (.head _))) (c.1 _ (.tail _ (.tail _ (.head _)))) (c.1 _ (.tail _ (.tail _ (.tail _ (.head _))))) (c.1 _ (.tail _ (.tail _ (.tail _ (.tail _ (.head _)))))) (c.1 _ (.tail _ (.tail _ (.tail _ (.tail _ (.tail _ (.head _))))))) (c.1 _ (.tail _ (.tail _ (.tail _ (.tail _ (.tail _ (.tail _ (.head _)))))))) (c.1 _ (.tail _ (.tail _ (.tail _ (.tail _ (.tail _ (.tail _ (.tail _ (.head _))))))))) (fun q hq => c.1 q (.tail _ (.tail _ (.tail _ (.tail _ (.tail _ (.tail _ (.tail _ (.tail _ hq))))))))) e12 e13 e14 e15 e16 e17 e18 eR1 e23 e24 e25 e26 e27 e28 eR2 e34 e35 e36 e37 e38 eR3 e45 e46 e47 e48 eR4 e56 e57 e58 eR5 e67 e68 eR6 e78 eR7 eR8 eE)
theorem nd_out10 {a0 a1 a2 a3 a4 a5 a6 a7 a8 a9 : Addr} {o0 o1 o2 o3 o4 o5 o6 o7 o8 o9 : Obj} {tl : Led} (h : ND ((a0, o0) :: (a1, o1) :: (a2, o2) :: (a3, o3) :: (a4, o4) :: (a5, o5) :: (a6, o6) :: (a7, o7) :: (a8, o8) :: (a9, o9) :: tl)) {P : Prop} (k : a1 ≠ a0 → a2 ≠ a0 → a3 ≠ a0 → a4 ≠ a0 → a5 ≠ a0 → a6 ≠ a0 → a7 ≠ a0 → a8 ≠ a0 → a9 ≠ a0 → (∀ q ∈ tl, q.1 ≠ a0) → a2 ≠ a1 → a3 ≠ a1 → a4 ≠ a1 → a5 ≠ a1 → a6 ≠ a1 → a7 ≠ a1 → a8 ≠ a1 → a9 ≠ a1 → (∀ q ∈ tl, q.1 ≠ a1) → a3 ≠ a2 → a4 ≠ a2 → a5 ≠ a2 → a6 ≠ a2 → a7 ≠ a2 → a8 ≠ a2 → a9 ≠ a2 → (∀ q ∈ tl, q.1 ≠ a2) → a4 ≠ a3 → a5 ≠ a3 → a6 ≠ a3 → a7 ≠ a3 → a8 ≠ a3 → a9 ≠ a3 → (∀ q ∈ tl, q.1 ≠ a3) → a5 ≠ a4 → a6 ≠ a4 → a7 ≠ a4 → a8 ≠ a4 → a9 ≠ a4 → (∀ q ∈ tl, q.1 ≠ a4) → a6 ≠ a5 → a7 ≠ a5 → a8 ≠ a5 → a9 ≠ a5 → (∀ q ∈ tl, q.1 ≠ a5) → a7 ≠ a6 → a8 ≠ a6 → a9 ≠ a6 → (∀ q ∈ tl, q.1 ≠ a6) → a8 ≠ a7 → a9 ≠ a7 → (∀ q ∈ tl, q.1 ≠ a7) → a9 ≠ a8 → (∀ q ∈ tl, q.1 ≠ a8) → (∀ q ∈ tl, q.1 ≠ a9) → ND tl → P) : P :=
  have c := nd_cons.mp h
  nd_out9 c.2 (fun e12 e13 e14 e15 e16 e17 e18 e19 eR1 e23 e24 e25 e26 e27 e28 e29 eR2 e34 e35 e36 e37 e38 e39 eR3 e45 e46 e47 e48 e49 eR4 e56 e57 e58 e59 eR5 e67 e68 e69 eR6 e78 e79 eR7 e89 eR8 eR9 eE => k (c.1 _ (.head _)) (c.1 _ (.tail _ (.head _))) (c.1 _ (.tail _ (.tail _ (.head _)))) (c.1 _ (.tail _ (.tail _ (.tail _ (.head _))))) (c.1 _ (.tail _ (.tail _ (.tail _ (.tail _ (.head _)))))) (c.1 _ (.tail _ (.tail _ (.tail _ (.tail _ (.tail _ (.head _))))))) (c.1 _ (.tail _ (.tail _ (.tail _ (.tail _ (.tail _ (.tail _ (.head _)))))))) (c.1 _ (.tail _ (.tail _ (.tail _ (.tail _ (.tail _ (.tail _ (.tail _ (.head _))))))))) (c.1 _ (.tail _ (.tail _ (.tail _ (.tail _ (.tail _ (.tail _ (.tail _ (.tail _ (.head _)))))))))) (fun q hq => c.1 q (.tail _ (.tail _ (.tail _ (.tail _ (.tail _ (.tail _ (.tail _ (.tail _ (.tail _ hq)))))))))) e12 e13 e14 e15 e16 e17 e18 e19 eR1 e23 e24 e25 e26 e27 e28 e29 eR2 e34 e35 e36 e37 e38 e39 eR3 e45 e46 e47 e48 e49 eR4 e56 e57 e58 e59 eR5 e67 e68 e69 eR6 e78 e79 eR7 e89 eR8 eR9 eE)
end Mine
-- Grf
open PySem PySem.W PySem.Calls PyProof.Rows
namespace Mine

noncomputable def fnd (l : List Info) (y : Str) : Option Info := l.find? (fun i => decide (i.name = y))
noncomputable def npL (l : List Info) (y : Str) : Int := match fnd l y with | some i => i.np | none => 0
noncomputable def ssL (l : List Info) (y : Str) : List Str := match fnd l y with | some i => i.ss.map (·.1) | none => []
noncomputable def nmL (l : List Info) : List Str := l.map (·.name)
noncomputable def addName (l : List Str) (x : Str) : List Str := if x ∈ l then l else l ++ [x]
theorem fnd_none {l : List Info} {y : Str} (h : ∀ j ∈ l, j.name ≠ y) : fnd l y = none := by
  unfold fnd; rw [List.find?_eq_none]; intro j hj; simpa using h j hj
theorem fnd_mid {A B : List Info} {i : Info} (hA : ∀ j ∈ A, j.name ≠ i.name) (y : Str) : fnd (A ++ i :: B) y = if i.name = y then some i else fnd (A ++ B) y := by
  by_cases e : i.name = y
  · subst e
    rw [if_pos rfl]
    unfold fnd
    rw [List.find?_append, show List.find? (fun j => decide (j.name = i.name)) A = none from fnd_none hA]
    simp
  · rw [if_neg e]
    unfold fnd
    rw [List.find?_append, List.find?_append, List.find?_cons, decide_eq_false e]
theorem nd_mid {A B : List Info} {i : Info} (h : ((A ++ i :: B).map (·.name)).Nodup) : ∀ j ∈ A, j.name ≠ i.name := by
  rw [List.map_append, List.nodup_append] at h
  intro j hj e
  exact h.2.2 _ (List.mem_map_of_mem hj) _ (by simp) e
theorem fnd_upd {A B : List Info} {i i' : Info} (h : ((A ++ i :: B).map (·.name)).Nodup) (e : i'.name = i.name) (y : Str) : fnd (A ++ i' :: B) y = if i.name = y then some i' else fnd (A ++ i :: B) y := by
  rw [fnd_mid (i := i') (by rw [e]; exact nd_mid h), fnd_mid (nd_mid h), e]
  by_cases q : i.name = y
  · rw [if_pos q, if_pos q]
  · rw [if_neg q, if_neg q, if_neg q]
theorem fnd_self {A B : List Info} {i : Info} (h : ((A ++ i :: B).map (·.name)).Nodup) : fnd (A ++ i :: B) i.name = some i := by rw [fnd_mid (nd_mid h), if_pos rfl]
theorem nm_upd {A B : List Info} {i i' : Info} (e : i'.name = i.name) : nmL (A ++ i' :: B) = nmL (A ++ i :: B) := by unfold nmL; simp [e]
theorem kv_upd {A B : List Info} {i i' : Info} (e : i'.name = i.name) (e2 : i'.ia = i.ia) : (A ++ i' :: B).map Info.kv = (A ++ i :: B).map Info.kv := by unfold Info.kv; simp [e, e2]
theorem np_upd {A B : List Info} {i i' : Info} (h : ((A ++ i :: B).map (·.name)).Nodup) (e : i'.name = i.name) (y : Str) : npL (A ++ i' :: B) y = if y = i.name then i'.np else npL (A ++ i :: B) y := by
  unfold npL
  rw [fnd_upd h e]
  by_cases q : i.name = y
  · rw [if_pos q, if_pos q.symm]
  · rw [if_neg q, if_neg (Ne.symm q)]
theorem ss_upd {A B : List Info} {i i' : Info} (h : ((A ++ i :: B).map (·.name)).Nodup) (e : i'.name = i.name) (y : Str) : ssL (A ++ i' :: B) y = if y = i.name then i'.ss.map (·.1) else ssL (A ++ i :: B) y := by
  unfold ssL
  rw [fnd_upd h e]
  by_cases q : i.name = y
  · rw [if_pos q, if_pos q.symm]
  · rw [if_neg q, if_neg (Ne.symm q)]
theorem np_self {A B : List Info} {i : Info} (h : ((A ++ i :: B).map (·.name)).Nodup) : npL (A ++ i :: B) i.name = i.np := by unfold npL; rw [fnd_self h]
theorem ss_self {A B : List Info} {i : Info} (h : ((A ++ i :: B).map (·.name)).Nodup) : ssL (A ++ i :: B) i.name = i.ss.map (·.1) := by unfold ssL; rw [fnd_self h]
theorem fnd_snoc {l : List Info} {i : Info} (h : ∀ j ∈ l, j.name ≠ i.name) (y : Str) : fnd (l ++ [i]) y = if i.name = y then some i else fnd l y := by
  have := fnd_mid (B := []) h y; simpa using this
theorem found_np {S : Srt} {x : Str} {od' : Obj} {A B : List Info} {i : Info} (hx : i.name = x) (h : Found S x od' A i B) (y : Str) : npL (A ++ i :: B) y = npL S.infos y := by
  rcases h with ⟨_, h⟩ | ⟨h1, rfl, rfl, h3, h4⟩
  · rw [h]
  · unfold npL
    subst hx
    rw [fnd_snoc h1]
    by_cases q : i.name = y
    · subst q; rw [if_pos rfl, fnd_none h1]; exact h3
    · rw [if_neg q]
theorem found_ss {S : Srt} {x : Str} {od' : Obj} {A B : List Info} {i : Info} (hx : i.name = x) (h : Found S x od' A i B) (y : Str) : ssL (A ++ i :: B) y = ssL S.infos y := by
  rcases h with ⟨_, h⟩ | ⟨h1, rfl, rfl, h3, h4⟩
  · rw [h]
  · unfold ssL
    subst hx
    rw [fnd_snoc h1]
    by_cases q : i.name = y
    · subst q; rw [if_pos rfl, fnd_none h1]; simp [h4]
    · rw [if_neg q]
theorem found_nm {S : Srt} {x : Str} {od' : Obj} {A B : List Info} {i : Info} (hx : i.name = x) (h : Found S x od' A i B) : nmL (A ++ i :: B) = addName (nmL S.infos) x := by
  rcases h with ⟨_, h⟩ | ⟨h1, rfl, rfl, h3, h4⟩
  · rw [h, addName, if_pos]
    subst hx
    simp [nmL]
  · rw [addName, if_neg]
    · subst hx; simp [nmL]
    · unfold nmL
      intro hm
      obtain ⟨j, hj, e⟩ := List.mem_map.mp hm
      exact h1 j hj e
theorem found_len {S : Srt} {x : Str} {od' : Obj} {A B : List Info} {i : Info} (h : Found S x od' A i B) : (A ++ i :: B).length ≤ S.infos.length + 1 := by
  rcases h with ⟨_, h⟩ | ⟨h1, rfl, rfl, h3, h4⟩
  · rw [h]; omega
  · simp
theorem add_pure {S S1 : Srt} {x p : Str} {od1 od2 : Obj} {A B A2 B2 : List Info} {i i1 i2 i3 : Info} (hF : Found S x od1 A i B) (hx : i.name = x) (nd1 : ((A ++ i :: B).map (·.name)).Nodup)
    (e1 : i1.name = i.name) (e2 : i1.ss = i.ss) (e3 : i1.np = i.np + 1) (hS1 : S1.infos = A ++ i1 :: B) (hF2 : Found S1 p od2 A2 i2 B2) (hp : i2.name = p) (nd2 : ((A2 ++ i2 :: B2).map (·.name)).Nodup)
    (f1 : i3.name = i2.name) (f2 : i3.np = i2.np) (f3 : i3.ss.map (·.1) = i2.ss.map (·.1) ++ [x]) :
    (A2 ++ i3 :: B2).length ≤ S.infos.length + 2 ∧ nmL (A2 ++ i3 :: B2) = addName (addName (nmL S.infos) x) p ∧ (∀ y, npL (A2 ++ i3 :: B2) y = npL S.infos y + if y = x then 1 else 0) ∧
      (∀ y, ssL (A2 ++ i3 :: B2) y = ssL S.infos y ++ if y = p then [x] else []) := by
  refine ⟨?_, ?_, ?_, ?_⟩
  · have h1 := found_len hF
    have h2 := found_len hF2
    rw [hS1] at h2
    simp only [List.length_append, List.length_cons] at h1 h2 ⊢
    omega
  · rw [nm_upd f1, found_nm hp hF2, hS1, nm_upd e1, found_nm hx hF]
  · intro y
    have h2 : npL (A2 ++ i3 :: B2) y = npL (A2 ++ i2 :: B2) y := by
      rw [np_upd nd2 f1]
      by_cases q : y = i2.name
      · rw [if_pos q, q, np_self nd2, f2]
      · rw [if_neg q]
    rw [h2, found_np hp hF2, hS1, np_upd nd1 e1, ← found_np hx hF, hx]
    by_cases q : y = x
    · rw [if_pos q, if_pos q, e3, q, ← hx, np_self nd1]
    · rw [if_neg q, if_neg q]; omega
  · intro y
    have h1 : ssL (A ++ i1 :: B) y = ssL (A ++ i :: B) y := by
      rw [ss_upd nd1 e1]
      by_cases q : y = i.name
      · rw [if_pos q, q, ss_self nd1, e2]
      · rw [if_neg q]
    rw [ss_upd nd2 f1, hp]
    have h3 : ssL (A2 ++ i2 :: B2) y = ssL S.infos y := by rw [found_ss hp hF2, hS1, h1, found_ss hx hF]
    by_cases q : y = p
    · rw [if_pos q, if_pos q, f3, ← h3, q, ← hp, ss_self nd2]
    · rw [if_neg q, if_neg q, h3]; simp
end Mine
-- Sort3
open PySem PySem.W PySem.Calls PyProof.Rows
namespace Mine


theorem lines_Sort31 : True := by
  k_with_none
  k_with "k_ne" => (first | with_reducible assumption | exact Ne.symm (by with_reducible assumption) | (refine neN ?_; (try dsimp only); first | with_reducible assumption | exact Ne.symm (by with_reducible assumption) | exact Nat.ne_of_lt (by with_reducible assumption) | exact Nat.ne_of_gt (by with_reducible assumption) | exact nl0 (by with_reducible assumption) | exact ng0 (by with_reducible assumption) | exact nl1 (by with_reducible assumption) | exact ng1 (by with_reducible assumption) | exact nl2 (by with_reducible assumption) | exact ng2 (by with_reducible assumption) | exact nl3 (by with_reducible assumption) | exact ng3 (by with_reducible assumption) | exact nl4 (by with_reducible assumption) | exact ng4 (by with_reducible assumption) | exact nl5 (by with_reducible assumption) | exact ng5 (by with_reducible assumption) | exact nl6 (by with_reducible assumption) | exact ng6 (by with_reducible assumption) | exact nl7 (by with_reducible assumption) | exact ng7 (by with_reducible assumption) | exact nl8 (by with_reducible assumption) | exact ng8 (by with_reducible assumption) | exact nl9 (by with_reducible assumption) | exact ng9 (by with_reducible assumption) | omega))
  k_with "room" => (first | exact room0 (by with_reducible assumption) | exact room1 (by with_reducible assumption) (by decide) | exact room2 (by with_reducible assumption) (by decide) | exact room3 (by with_reducible assumption) (by decide))
  k_with "units" => (first | exact unit0 (by with_reducible assumption) | exact unit1 (by with_reducible assumption) (by decide) | exact unit2 (by with_reducible assumption) (by decide) | exact unit3 (by with_reducible assumption) (by decide))
  k_with "om" => (first | with_reducible assumption | with_reducible exact le_lit (by with_reducible assumption) (by decide) | with_reducible exact add_lit (by with_reducible assumption) (by with_reducible assumption) (by with_reducible assumption) (by decide) | with_reducible exact lt_lel (by with_reducible assumption) (by decide) | with_reducible exact sum_lit (by with_reducible assumption) (by with_reducible assumption) (by decide) | with_reducible exact suc_lit (by with_reducible assumption) (by decide) | with_reducible exact lt_lit (by with_reducible assumption) (by decide) | with_reducible exact le_ltl (by with_reducible assumption) (by decide) | with_reducible exact ige_lit (by with_reducible assumption) (by decide) | with_reducible exact ile_lit (by with_reducible assumption) (by decide) | with_reducible exact ilt_lit (by with_reducible assumption) (by decide) | omega)
  k_with "execs cons" => (k_here; k_fold)
  k_with "execs cons" => (k_here; (with_reducible show wpAny _ _ _ _ _ (Shared.mk _ _ _ (_ + _) _)); refine toks_all ?_; intro tk; (try dsimp only))
  k_with "execs nil" => (k_here; (with_reducible show wpAny _ _ _ _ _ (Shared.mk _ _ _ (_ + _) _)); refine toks_all ?_; intro tk; (try dsimp only))
  k_with "eval BinOp" => (k_here; k_fold)
  k_with "eval Call Attribute" => (k_here; k_fold)
  k_with "eval Call Name" => (k_here; k_fold)
  k_with "eval Call" => (k_here; k_fold)
  k_with "eval Subscript" => (k_here; k_fold)
  k_with "eval Compare" => (k_here; k_fold)
  k_with "eval IfExp" => (k_here; k_fold)
  k_with "eval List" => (k_here; k_fold)
  k_with "eval Tuple" => (k_here; k_fold)
  k_with "k_all" => (first | exact allLt_ne (by assumption) | assumption | (intro p9 hp9; refine neN ?_; have h9 := ltN (ktn_ltOf (by first | assumption | exact (show _ ∧  AllLt _ _ by assumption).2 | exact (show _ ∧ _ ∧  AllLt _ _ by assumption).2.2 | exact (show _ ∧ _ ∧ _ ∧  AllLt _ _ by assumption).2.2.2 | exact (show _ ∧ _ ∧ _ ∧ _ ∧  AllLt _ _ by assumption).2.2.2.2 | exact (show _ ∧ _ ∧ _ ∧ _ ∧ _ ∧  AllLt _ _ by assumption).2.2.2.2.2 | exact (show _ ∧ _ ∧ _ ∧ _ ∧ _ ∧ _ ∧  AllLt _ _ by assumption).2.2.2.2.2.2 | exact (show _ ∧ _ ∧ _ ∧ _ ∧ _ ∧ _ ∧ _ ∧  AllLt _ _ by assumption).2.2.2.2.2.2.2 | exact (show _ ∧ _ ∧ _ ∧ _ ∧ _ ∧ _ ∧ _ ∧ _ ∧  AllLt _ _ by assumption).2.2.2.2.2.2.2.2 | exact (show _ ∧ _ ∧ _ ∧ _ ∧ _ ∧ _ ∧ _ ∧ _ ∧ _ ∧  AllLt _ _ by assumption).2.2.2.2.2.2.2.2.2 | exact (show _ ∧ _ ∧ _ ∧ _ ∧ _ ∧ _ ∧ _ ∧ _ ∧ _ ∧ _ ∧  AllLt _ _ by assumption).2.2.2.2.2.2.2.2.2.2) p9 hp9); first | exact Nat.ne_of_lt h9 | exact Nat.ne_of_gt h9 | omega))
  k_with "pyIter ref" => (refine Held.mk ?_)
  k_with "exec For Name Name cons nil" => (k_here; (rename Fr _ _ _ _ => lF'); (with_unfolding_all refine' For_invVF lF' (by exact rfl) (by exact rfl) ?_; k_whole))
  k_with "call ref" => (k_here; (with_reducible show wpAny _ _ (call (Value.ref 195) _) _ _ _); refine Held.mk ?_)
  trivial

theorem nd_front {l : Led} {p : Addr × Obj} {a b c : Addr × Obj} {r tl : Led} (h : ND (a :: b :: c :: (r ++ tl))) (hp : ∀ q ∈ a :: b :: c :: (r ++ tl), q.1 < p.1) : ND (a :: b :: c :: (r ++ p :: tl)) := by
  have h1 : ND (p :: a :: b :: c :: (r ++ tl)) := nd_cons.mpr ⟨fun q hq => Nat.ne_of_lt (hp q hq), h⟩
  refine h1.perm ?_
  have : (p :: (a :: b :: c :: r ++ tl)).Perm ((a :: b :: c :: r) ++ p :: tl) := List.perm_middle.symm
  simpa using this
theorem mem_front {a b c d e f p q : Addr × Obj} {r tl : Led} : q ∈ p :: a :: b :: c :: d :: e :: f :: (r ++ tl) ↔ q ∈ a :: b :: c :: d :: e :: f :: (r ++ p :: tl) := by
  have : (p :: (a :: b :: c :: d :: e :: f :: r ++ tl)).Perm ((a :: b :: c :: d :: e :: f :: r) ++ p :: tl) := List.perm_middle.symm
  have h := this.mem_iff (a := q)
  simpa using h
theorem nd_front7 {a b c d e f p : Addr × Obj} {r tl : Led} (h : ND (a :: b :: c :: d :: e :: f :: (r ++ p :: tl))) : ND (p :: a :: b :: c :: d :: e :: f :: (r ++ tl)) := by
  have : (p :: (a :: b :: c :: d :: e :: f :: r ++ tl)).Perm ((a :: b :: c :: d :: e :: f :: r) ++ p :: tl) := List.perm_middle.symm
  exact h.perm (by simpa using this.symm)
theorem srt_split (w : World) (self sd d : Addr) (k1 k2 k3 k4 : Tok) (rv npo nfi : Value) (od : Obj) (A B : List Info) (i : Info) (tl : Led) :
    (Srt.led w ⟨self, sd, d, k1, k2, k3, k4, rv, npo, nfi, od, A ++ i :: B⟩ tl).Perm (i.objs ++ Srt.led w ⟨self, sd, d, k1, k2, k3, k4, rv, npo, nfi, od, A ++ B⟩ tl) :=
  perm_split [(self, instObj 252 sd), (sd, dictOf [⟨PyData.keyHash w.params (Str.ofString "_node2info"), .str (Str.ofString "_node2info") k1, .ref d⟩, ⟨PyData.keyHash w.params (Str.ofString "_ready_nodes"), .str (Str.ofString "_ready_nodes") k2, rv⟩, ⟨PyData.keyHash w.params (Str.ofString "_npassedout"), .str (Str.ofString "_npassedout") k3, npo⟩, ⟨PyData.keyHash w.params (Str.ofString "_nfinished"), .str (Str.ofString "_nfinished") k4, nfi⟩] 4), (d, od)] tl A B i
theorem led_tl (w : World) (S : Srt) (x tl : Led) : (S.led w (x ++ tl)).Perm (x ++ S.led w tl) := by
  have h := (List.perm_append_comm_assoc x ((S.self, instObj 252 S.sd) :: (S.sd, dictOf [⟨PyData.keyHash w.params (Str.ofString "_node2info"), .str (Str.ofString "_node2info") S.k1, .ref S.d⟩, ⟨PyData.keyHash w.params (Str.ofString "_ready_nodes"), .str (Str.ofString "_ready_nodes") S.k2, S.rv⟩, ⟨PyData.keyHash w.params (Str.ofString "_npassedout"), .str (Str.ofString "_npassedout") S.k3, S.npo⟩, ⟨PyData.keyHash w.params (Str.ofString "_nfinished"), .str (Str.ofString "_nfinished") S.k4, S.nfi⟩] 4) :: (S.d, S.od) :: objsOf S.infos) tl).symm
  simpa using h
theorem nd_keys {l l' : Led} (h : ND l) (e : l.map (·.1) = l'.map (·.1)) : ND l' := by unfold ND at h ⊢; rw [← e]; exact h
noncomputable def AddPost (w : World) (S : Srt) (x p : Str) (tl : Led) (v : Value) (n' : Led) : Prop :=
  ∃ od' l, v = .none ∧ n' = ({ S with od := od', infos := l } : Srt).led w tl ∧ ND n' ∧ ({ S with od := od', infos := l } : Srt).Ok w ∧ l.length ≤ S.infos.length + 2 ∧
    nmL l = addName (addName (nmL S.infos) x) p ∧ (∀ y, npL l y = npL S.infos y + if y = x then 1 else 0) ∧ (∀ y, ssL l y = ssL S.infos y ++ if y = p then [x] else [])
theorem lines_Sort32 : True := by
  k_with "call builtin:list.append" => (k_here; k_dflt (refine' appendL (by k_asm) (by k_asm) (by k_upd) (by k_extra "om") ?_; k_whole); intro h' F' N'; (try k_sweep))
  trivial

theorem strValues_snoc (l : List (Str × Tok)) (x : Str) (t : Tok) : strValues l ++ [.str x t] = strValues (l ++ [(x, t)]) := by unfold strValues; simp
theorem mid_perm (w : World) (self sd d : Addr) (k1 k2 k3 k4 : Tok) (rv npo nfi : Value) (od : Obj) (A B : List Info) (i : Info) (tl X : Led) :
    (X ++ (i.objs ++ Srt.led w ⟨self, sd, d, k1, k2, k3, k4, rv, npo, nfi, od, A ++ B⟩ tl)).Perm (Srt.led w ⟨self, sd, d, k1, k2, k3, k4, rv, npo, nfi, od, A ++ i :: B⟩ (X ++ tl)) :=
  ((List.Perm.append_left X (srt_split w self sd d k1 k2 k3 k4 rv npo nfi od A B i tl).symm)).trans (led_tl w ⟨self, sd, d, k1, k2, k3, k4, rv, npo, nfi, od, A ++ i :: B⟩ X tl).symm
theorem mid_both {w : World} {self sd d : Addr} {k1 k2 k3 k4 : Tok} {rv npo nfi : Value} {od : Obj} {A B : List Info} {i : Info} {tl : Led} (X : Led) {h₀ h : Heap} {L : Addr}
    (hn : ND (X ++ (i.objs ++ Srt.led w ⟨self, sd, d, k1, k2, k3, k4, rv, npo, nfi, od, A ++ B⟩ tl))) (N : News h₀ L h (X ++ (i.objs ++ Srt.led w ⟨self, sd, d, k1, k2, k3, k4, rv, npo, nfi, od, A ++ B⟩ tl))) :
    ∃ i1, i1 = i ∧ ND (Srt.led w ⟨self, sd, d, k1, k2, k3, k4, rv, npo, nfi, od, A ++ i1 :: B⟩ (X ++ tl)) ∧ News h₀ L h (Srt.led w ⟨self, sd, d, k1, k2, k3, k4, rv, npo, nfi, od, A ++ i1 :: B⟩ (X ++ tl)) :=
  have hp := mid_perm w self sd d k1 k2 k3 k4 rv npo nfi od A B i tl X
  ⟨i, rfl, ND.perm hn hp, cb_drop N (fun _ hq => hp.symm.subset hq)⟩
theorem ok_upd {w : World} {self sd d : Addr} {k1 k2 k3 k4 : Tok} {rv npo nfi : Value} {od : Obj} {A B : List Info} {i i' : Info} (h : (Srt.mk self sd d k1 k2 k3 k4 rv npo nfi od (A ++ i :: B)).Ok w) (e : i'.name = i.name) (e2 : i'.ia = i.ia) :
    (Srt.mk self sd d k1 k2 k3 k4 rv npo nfi od (A ++ i' :: B)).Ok w := by
  refine ⟨?_, h.low, ?_⟩
  · have := h.dict
    dsimp only at this ⊢
    rw [kv_upd e e2]; exact this
  · have := h.nd
    dsimp only at this ⊢
    have q := nm_upd (A := A) (B := B) e
    unfold nmL at q
    rw [q]; exact this
theorem found_ssl {S : Srt} {x : Str} {od' : Obj} {A B : List Info} {i : Info} {k : Nat} (h : Found S x od' A i B) (hs : ∀ j ∈ S.infos, j.ss.length ≤ k) : ∀ j ∈ A ++ i :: B, j.ss.length ≤ k := by
  rcases h with ⟨_, h⟩ | ⟨h1, rfl, rfl, h3, h4⟩
  · rw [← h]; exact hs
  · intro j hj
    rcases List.mem_append.mp hj with hj | hj
    · exact hs j hj
    · simp at hj; rw [hj, h4]; simp
theorem mid_all {P : Info → Prop} {A B : List Info} {i i' : Info} (h : ∀ j ∈ A ++ i :: B, P j) (h' : P i') : ∀ j ∈ A ++ i' :: B, P j := by
  intro j hj
  simp only [List.mem_append, List.mem_cons] at hj
  rcases hj with hj | rfl | hj
  · exact h j (by simp [hj])
  · exact h'
  · exact h j (by simp [hj])
set_option pp.maxSteps 3000 in
theorem add_c (w : World) (mean : ExcName → Option Value) (mg mb : Str → Option Value) (S : Srt) (x p : Str) (tx tp : Tok) (tl : Led) (hS : S.Ok w) (hN : ND (S.led w tl)) (hl : S.infos.length ≤ 900) (hrv : S.rv = .none) (hsl : ∀ i ∈ S.infos, i.ss.length ≤ 900) :
    Tell w mean mg mb 5 40 202 [.ref S.self, .str x tx, .str p tp] (S.led w tl) (AddPost w S x p tl) := by
  refine Classical.byContradiction fun hn9 => ?_
  obtain ⟨self, sd, d, k1, k2, k3, k4, rv, npo, nfi, od, infos⟩ := S
  refine hn9 ?_
  clear hn9
  dsimp only at hrv hl hsl
  subst hrv
  unfold Tell
  k_fill
  intro dp un gd cn cs a ccd cl outer A₀ base h₀ L m
  intro s Q E B F X N T hk hdp hun hret
  refine wpAny_call ?_
  k_dflt (refine' kpc_rest ?k1 ?k2 ?k3 ?k4 ?k5 ?kA ?kF ?kK ?k6 ?k7 ?k8 ?kV ?kP ?kG ?kB ?_ ?c2 ?c3 ?c4 ?c5; (case kA => exact rfl); (case kF => exact rfl); (case kK => assumption); (case k1 => k_asm); (case k2 => k_asm); (case k3 => k_asm); (case k4 => k_asm); (case k5 => k_asm); (case k6 => k_is); (case k7 => k_is); (case k8 => ktr_room); (case kV => kl_lit); (case kP => exact rfl); (case kG => exact fun _ => rfl); (case kB => exact fun _ => locs rfl); (case c5 => decide); (case c2 => exact rfl); (case c3 => exact rfl); (case c4 => exact rfl); k_whole; intro D' g' L' h' l1 FG' F' N' B' X' T'; (try k_lt l1); (try dsimp only); (try k_fold))
  refine wpAny_noRaise ?_
  dsimp only [Srt.led] at N'
  k_steps
  refine Held.of ?_
  rename Fr _ _ _ _ => F1
  refine Classical.byContradiction fun hn9 => ?_
  obtain ⟨l1, l2, l3, l4⟩ := l1
  refine hn9 ?_
  clear hn9
  have hN2 : ND (Srt.led w ⟨self, sd, d, k1, k2, k3, k4, .none, npo, nfi, od, infos⟩ ((D', { cls := .type "tuple", data := .seq #[.str p tp] }) :: tl)) := by
    refine nd_front (l := []) hN ?_
    intro q hq
    simp only [List.mem_cons] at hq
    rcases hq with rfl | rfl | rfl | hq
    · exact l1
    · exact l2
    · exact l3
    · exact ktn_ltOf l4 q hq
  k_dflt (refine' tell_use (get_nodeinfo_c w mean mg mb ⟨self, sd, d, k1, k2, k3, k4, .none, npo, nfi, od, infos⟩ x tx ((D', { cls := .type "tuple", data := .seq #[.str p tp] }) :: tl) hS hN2 (Nat.le_trans hl (by decide))) ?B ?F ?X ?N ?T ?hk ?hd ?hu ?_)
  case B => k_asm
  case F => k_asm
  case X => k_asm
  case T => k_asm
  case hk => first | exact rfl | assumption
  case hd => ktr_room
  case hu => ktr_units
  case N =>
    refine cb_drop N' ?_
    intro q hq
    simp only [List.mem_cons, List.mem_append] at hq ⊢
    rcases hq with h | h | h | h | h | h <;> simp [h]
  clear F1 N'
  intro v n h1 tk1 hp94 F1 N1
  refine Classical.byContradiction fun hn9 => ?_
  obtain ⟨od', A, i, B', rfl, rfl, hND, hOk, hx, hF⟩ := hp94
  refine hn9 ?_
  clear hn9
  dsimp only [Info.objs, Srt.led, List.cons_append, List.nil_append] at N1 hND
  have N2 := cb_drop N1 (fun q hq => mem_front.mp hq)
  have hND2 := nd_front7 hND
  have hND3 := hND2
  clear N1 hN2 hN
  k_dflt (refine nd_out7 hND2 ?_)
  intro e01 e02 e03 e04 e05 e06 eR0 e12 e13 e14 e15 e16 eR1 e23 e24 e25 e26 eR2 e34 e35 e36 eR3 e45 e46 eR4 e56 eR5 eR6 eE
  clear hND2
  (try dsimp only)
  (try k_fold)
  k_steps
  refine Held.of ?_
  rename Fr _ _ _ _ => F3
  rename News _ _ _ _ => N3
  have hlen1 := found_len hF
  have hss1 := found_ssl hF hsl
  dsimp only at hlen1 hss1
  refine iterOne (fun _ n => AddPost w ⟨self, sd, d, k1, k2, k3, k4, .none, npo, nfi, od, infos⟩ x p ((D', { cls := .type "tuple", data := .seq #[.str p tp] }) :: tl) .none n) rfl F3 N3 (.head _) ?keep ?turn ?done
  case keep =>
    intro m n hp92
    refine Classical.byContradiction fun hn9 => ?_
    obtain ⟨od2, l2, _, rfl, _⟩ := hp92
    refine hn9 ?_
    clear hn9
    simp
  case turn =>
    intro h tk I io hI F₁ N₁
    clear F3 N3
    have hND4 := (nd_cons (p := (I, io))).mpr ⟨hI, nd_keys hND3 rfl⟩
    refine Classical.byContradiction fun hn9 => ?_
    obtain ⟨i1, hi1, hND5, N5⟩ := mid_both (i := { i with np := i.np + 1, npt := _ }) [(I, io), (D', { cls := .type "tuple", data := .seq #[.str p tp] })] hND4 N₁
    refine hn9 ?_
    clear hn9
    have ei1 : i1.name = i.name := by rw [hi1]
    have ei2 : i1.ia = i.ia := by rw [hi1]
    have ei3 : i1.ss = i.ss := by rw [hi1]
    have ei4 : i1.np = i.np + 1 := by rw [hi1]
    clear N₁ hND4 hND3 hi1
    have hOk1 := ok_upd (i' := i1) hOk ei1 ei2
    have hss2 := mid_all (i' := i1) hss1 (by rw [ei3]; exact hss1 i (by simp))
    k_steps
    refine Held.of ?_
    rename Fr _ _ _ _ => F6
    k_dflt (refine' tell_use (get_nodeinfo_c w mean mg mb ⟨self, sd, d, k1, k2, k3, k4, .none, npo, nfi, od', A ++ i1 :: B'⟩ p tp ([(I, io), (D', { cls := .type "tuple", data := .seq #[.str p tp] })] ++ tl) hOk1 hND5 ?hz) ?B ?F ?X ?N ?T ?hk ?hd ?hu ?_)
    case hz =>
      simp only [List.length_append, List.length_cons] at hlen1 ⊢
      omega
    case B => k_asm
    case F => k_asm
    case X => k_asm
    case T => k_asm
    case hk => first | exact rfl | assumption
    case hd => ktr_room
    case hu => ktr_units
    case N => k_asm
    clear F6 N5
    intro v2 n2 h2 tk2 hp94 F7 N7
    refine Classical.byContradiction fun hn9 => ?_
    obtain ⟨od2, A2, i2, B2, rfl, rfl, hND6, hOk2, hx2, hF2⟩ := hp94
    refine hn9 ?_
    clear hn9
    have hlen2 : i2.ss.length ≤ 900 := found_ssl hF2 hss2 i2 (by simp)
    have hvl : (strValues i2.ss).length ≤ 900 := by unfold strValues; simpa using hlen2
    dsimp only [Info.objs, Srt.led, List.cons_append, List.nil_append] at N7 hND6
    have hND7 := hND6
    k_dflt (refine nd_out6 hND6 ?_)
    intro g01 g02 g03 g04 g05 gR0 g12 g13 g14 g15 gR1 g23 g24 g25 gR2 g34 g35 gR3 g45 gR4 gR5 gE
    clear hND6
    (try dsimp only)
    (try k_fold)
    k_steps
    rename Fr _ _ _ _ => F8
    rename News _ _ _ _ => N8
    rw [strValues_snoc] at N8
    refine Classical.byContradiction fun hn9 => ?_
    obtain ⟨i3, hi3, hND8, N9⟩ := mid_both (i := { i2 with ss := i2.ss ++ [(x, tx)], sc := _ }) [] (nd_keys hND7 rfl) N8
    refine hn9 ?_
    clear hn9
    have hp3 := led_tl w ⟨self, sd, d, k1, k2, k3, k4, .none, npo, nfi, od2, A2 ++ i3 :: B2⟩ [(I, io)] ((D', { cls := .type "tuple", data := .seq #[.str p tp] }) :: tl)
    have hND9 := nd_cons.mp (ND.perm hND8 hp3)
    have N10 := cb_drop N9 (fun q hq => hp3.symm.subset hq)
    have gi1 : i3.name = i2.name := by rw [hi3]
    have gi2 : i3.ia = i2.ia := by rw [hi3]
    have gi3 : i3.ss.map (·.1) = i2.ss.map (·.1) ++ [x] := by rw [hi3]; simp
    have gi4 : i3.np = i2.np := by rw [hi3]
    refine Classical.byContradiction fun hn9 => ?_
    obtain ⟨q1, q2, q3, q4⟩ := add_pure hF hx hOk.nd ei1 ei3 ei4 rfl hF2 hx2 hOk2.nd gi1 gi4 gi3
    refine hn9 ?_
    clear hn9
    exact TurnEnd.fin (.inl rfl) F8 N10 hND9.1 ⟨od2, _, rfl, rfl, hND9.2, ok_upd hOk2 gi1 gi2, q1, q2, q3, q4⟩
  case done =>
    intro m' n' h tk hp94 F₁ N₁
    refine Classical.byContradiction fun hn9 => ?_
    obtain ⟨od2, l2, _, rfl, hq1, hq2, hq3⟩ := hp94
    refine hn9 ?_
    clear hn9
    have hp4 := led_tl w ⟨self, sd, d, k1, k2, k3, k4, .none, npo, nfi, od2, l2⟩ [(D', { cls := .type "tuple", data := .seq #[.str p tp] })] tl
    have hq4 := (nd_cons.mp (ND.perm hq1 hp4)).2
    clear F3 N3 hND3
    k_steps
    all_goals exact hret _ _ _ _ ⟨od2, l2, rfl, rfl, hq4, hq2, hq3⟩ (by k_asm) (cb_drop (by assumption) (fun q hq => hp4.symm.subset (.tail _ hq)))
end Mine
-- Tg
open PySem PySem.W PySem.Calls PyProof.Rows
namespace Mine

noncomputable abbrev frs (l : List Env) : List Addr := l.filterMap (·.frame)
theorem gone_size (h : Heap) : ∀ l, (TI.gone h l).objs.size = h.objs.size
  | [] => rfl
  | a :: l => by
    show ((TI.gone h l).update a _).objs.size = _
    rw [Heap.size_after_update]
    exact gone_size h l
theorem frs_of {base h : Heap} : ∀ {l : List Env}, h.FunFrames base l → KtsDicts (frs l) h → ∃ fr, TI.Frs l fr ∧ fr.map (·.1) = frs l ∧ ∀ q ∈ fr, h.get? q.1 = some q.2 := by
  intro l
  induction l with
  | nil => intro _ _; exact ⟨[], trivial, rfl, fun q hq => nomatch hq⟩
  | cons env l ih =>
    intro hp90 D
    refine Classical.byContradiction fun hn9 => ?_
    obtain ⟨hk, ⟨L, o, hf, hb, ho, _⟩, hr⟩ := hp90
    refine hn9 ?_
    clear hn9
    have hm : L ∈ frs (env :: l) := List.mem_filterMap.mpr ⟨env, .head _, hf⟩
    refine Classical.byContradiction fun hn9 => ?_
    obtain ⟨o', es, n, ho', hd⟩ := D L hm
    refine hn9 ?_
    clear hn9
    obtain ⟨fr, h1, h2, h3⟩ := ih hr (fun b hb => D b (by
      refine Classical.byContradiction fun hn9 => ?_
      obtain ⟨e, he, q⟩ := List.mem_filterMap.mp hb
      refine hn9 ?_
      clear hn9
      exact List.mem_filterMap.mpr ⟨e, .tail _ he, q⟩))
    refine ⟨(L, o') :: fr, ⟨hk, hf, ⟨es, n, hd⟩, h1⟩, ?_, ?_⟩
    · unfold frs at h2 ⊢
      rw [List.map_cons, List.filterMap_cons, hf, h2]
    · intro q hq
      rcases List.mem_cons.mp hq with rfl | hq
      · exact ho'
      · exact h3 q hq
theorem swap {A : Around} {base g h : Heap} {l : List Env} {L : Addr} {m : Str → Option Value} {news : Led} (B : Below A base l g) (F : Fr g L h m) (N : News g L h news) (D : KtsDicts (frs l) g) :
    ∃ fr, TI.Frs l fr ∧ fr.map (·.1) = frs l ∧ (∀ q ∈ fr, g.get? q.1 = some q.2) ∧ Fr (TI.gone g (frs l)) L h m ∧ News (TI.gone g (frs l)) L h (news ++ fr) ∧ base.StaysIn (TI.gone g (frs l)) ∧ (∀ p ∈ news, ∀ q ∈ fr, q.1 ≠ p.1) := by
  refine Classical.byContradiction fun hn9 => ?_
  obtain ⟨fr, h1, h2, h3⟩ := frs_of B.frames D
  refine hn9 ?_
  clear hn9
  have hmem : ∀ q ∈ fr, q.1 ∈ frs l := fun q hq => by rw [← h2]; exact List.mem_map_of_mem hq
  refine ⟨fr, h1, h2, h3, ⟨F.ns, fun b o e => F.keep b o (TI.gone_some e).2, by rw [gone_size]; exact F.above⟩, ?_, ?_, ?_⟩
  · intro p hp
    rcases List.mem_append.mp hp with hp | hp
    · refine Classical.byContradiction fun hn9 => ?_
      obtain ⟨a, b, c⟩ := N p hp
      refine hn9 ?_
      clear hn9
      refine ⟨a, b, ?_⟩
      cases q : (TI.gone g (frs l)).get? p.1 with
      | none => rfl
      | some o => have := (TI.gone_some q).2; rw [c] at this; cases this
    · refine ⟨F.keep _ _ (h3 p hp), ?_, TI.gone_none (hmem p hp)⟩
      intro e
      have := h3 p hp
      rw [e, kts_self F] at this
      cases this
  · intro b o e
    rw [TI.gone_get]
    · exact B.stays b o e
    · intro hm
      rw [(B.frames.mem hm).1] at e
      cases e
  · intro p hp q hq e
    have h4 := h3 q hq
    rw [e, (N p hp).2.2] at h4
    cases h4
theorem unswap {g h' : Heap} {l : List Env} {L : Addr} {m : Str → Option Value} {news : Led} {fr fr' : Led} (h2 : fr.map (·.1) = frs l) (h3 : ∀ q ∈ fr, g.get? q.1 = some q.2)
    (F : Fr (TI.gone g (frs l)) L h' m) (N : News (TI.gone g (frs l)) L h' (news ++ fr')) (SU : TI.SameUp fr fr') (ap : ∀ p ∈ news, ∀ q ∈ fr', q.1 ≠ p.1) :
    ∃ g', KtsTurn (frs l) g g' ∧ Fr g' L h' m ∧ News g' L h' news := by
  have hback : ∀ b ∈ frs l, ∃ o sl, g.get? b = some o ∧ (b, ({ o with slots := sl } : Obj)) ∈ fr' := by
    intro b hb
    rw [← h2] at hb
    refine Classical.byContradiction fun hn9 => ?_
    obtain ⟨p, hp, rfl⟩ := List.mem_map.mp hb
    refine hn9 ?_
    clear hn9
    refine Classical.byContradiction fun hn9 => ?_
    obtain ⟨sl, hs⟩ := SU.back p hp
    refine hn9 ?_
    clear hn9
    exact ⟨p.2, sl, h3 p hp, hs⟩
  obtain ⟨T, S⟩ := kts_turn_at (h := h') (fs := frs l) (g := g) (fun b hb => let ⟨o, _, q, _⟩ := hback b hb; ⟨o, q⟩)
    (fun b o e nm => F.keep b o (by rw [TI.gone_get nm]; exact e))
    (fun b o e hm => by
      refine Classical.byContradiction fun hn9 => ?_
      obtain ⟨o', sl, h4, h5⟩ := hback b hm
      refine hn9 ?_
      clear hn9
      rw [e] at h4
      cases h4
      exact ⟨sl, (N _ (List.mem_append_right _ h5)).1⟩)
  refine ⟨_, T, ⟨F.ns, S, by rw [T.size, ← gone_size g (frs l)]; exact F.above⟩, ?_⟩
  intro p hp
  refine Classical.byContradiction fun hn9 => ?_
  obtain ⟨a, b, c⟩ := N p (List.mem_append_left _ hp)
  refine hn9 ?_
  clear hn9
  refine ⟨a, b, T.none_ _ ?_⟩
  have hnf : p.1 ∉ frs l := by
    intro hm
    refine Classical.byContradiction fun hn9 => ?_
    obtain ⟨o', sl, _, h5⟩ := hback _ hm
    refine hn9 ?_
    clear hn9
    exact ap p hp _ h5 rfl
  rw [TI.gone_get hnf] at c
  exact c
theorem turn_caller {A₀ : Around} {base h₀ g g2 : Heap} {outer : List Env} {L a : Addr} {m : Str → Option Value} {cn : Str} {cs : Scope} {ccd : Value} (B : Below A₀ base outer h₀) (F : Fr h₀ L g m) (T : KtsTurn (frs (envOf cn cs L a ccd :: outer)) g g2) :
    ∃ h₀', KtsTurn (frs outer) h₀ h₀' ∧ Fr h₀' L g2 m ∧ Below A₀ base outer h₀' := by
  have nL₀ : h₀.get? L = none := kts_self F
  obtain ⟨T₁, S₁⟩ := kts_turn_at (h := g2) (fs := frs outer) (g := h₀)
    (fun b hb => by
      refine Classical.byContradiction fun hn9 => ?_
      obtain ⟨_, o, ho', _⟩ := B.frames.mem hb
      refine hn9 ?_
      clear hn9
      exact ⟨o, ho'⟩)
    (fun b o e nmem => T.other b o (F.keep b o e) (fun q => by
      rcases kts_mem q with z | z
      · rw [z, nL₀] at e
        cases e
      · exact nmem z))
    (fun b o e hm => T.up (F.keep b o e))
  refine ⟨_, T₁, ⟨?_, S₁, by rw [T₁.size]; exact F.above⟩, ⟨B.stack, fun b o e => T₁.other b o (B.stays b o e) (fun hm => by
    rw [(B.frames.mem hm).1] at e
    cases e), B.frames.of_keeps fun b o e _ => ?_⟩⟩
  · refine Classical.byContradiction fun hn9 => ?_
    obtain ⟨oL, es, ep, hL, hLd, hLk, hLf⟩ := F.ns
    refine hn9 ?_
    clear hn9
    refine Classical.byContradiction fun hn9 => ?_
    obtain ⟨sl, hs⟩ := T.up hL
    refine hn9 ?_
    clear hn9
    exact ⟨_, es, ep, hs, hLd, hLk, hLf⟩
  · refine Classical.byContradiction fun hn9 => ?_
    obtain ⟨sl', hs'⟩ := T₁.up e
    refine hn9 ?_
    clear hn9
    exact ⟨_, hs', rfl⟩
/-- a contract under which the ground may turn (an exception caught within) and CycleError may come out -/
noncomputable def TellG (w : World) (mean : ExcName → Option Value) (mg mb : Str → Option Value) (D U : Nat) (f : Addr) (args : List Value) (news : Led) (Post : Value → Led → Prop) (PostE : Led → Prop) : Prop :=
  ∀ (dp un : Nat) (gd : Option (List Code)) (cn : Str) (cs : Scope) (a : Addr) (ccd : Value) (cl : List (Str × Addr)) (outer : List Env) (A₀ : Around) (base h₀ : Heap) (L : Addr) (m : Str → Option Value) (s : Shared) (Q E : Value → Shared → Prop),
    Below A₀ base outer h₀ → Fr h₀ L s.heap m → (hd.heap_39 w.params).In h₀ → News h₀ L s.heap news → Top hd.view_39 (looseW hd.view_39 [Str.ofString "_NodeInfo", Str.ofString "_filemode_table"]) mean mg mb h₀ →
    (hd.heap_39 w.params).In base → Top hd.view_39 (looseW hd.view_39 [Str.ofString "_NodeInfo", Str.ofString "_filemode_table"]) mean mg mb base → KtsDicts (outer.filterMap (·.frame)) h₀ → cs.kind = .function →
    dp + D < recursionLimit → un + U < cLine →
    (∀ v news' h' tk' h₀', Post v news' → KtsTurn (outer.filterMap (·.frame)) h₀ h₀' → Fr h₀' L h' m → News h₀' L h' news' → Below A₀ base outer h₀' → (hd.heap_39 w.params).In h₀' →
      Top hd.view_39 (looseW hd.view_39 [Str.ofString "_NodeInfo", Str.ofString "_filemode_table"]) mean mg mb h₀' → KtsDicts (outer.filterMap (·.frame)) h₀' → Q v { s with heap := h', toks := tk' }) →
    (∀ e t vs newsE h' tk' G h₀', PostE newsE → KtsTurn (outer.filterMap (·.frame)) h₀ h₀' → Fr h₀' L G m → Below A₀ base outer h₀' → (hd.heap_39 w.params).In h₀' →
      Top hd.view_39 (looseW hd.view_39 [Str.ofString "_NodeInfo", Str.ofString "_filemode_table"]) mean mg mb h₀' → KtsDicts (outer.filterMap (·.frame)) h₀' →
      RaisedS base G (envX cn cs L a ccd cl :: outer) e (.ref 170) t vs newsE h' → G.UpToSlots h' → E (.ref e) { s with heap := h', toks := tk' }) →
    wpAny (model PySem.Challenge.rw_pd0160_01.row.prog w) (ktrTop dp un gd cn cs L a ccd cl outer) (call (.ref f) args) Q E s
end Mine
-- Cx
open PySem PySem.W PySem.Calls PyProof.Rows
namespace Mine

section
variable {prog : Program} {w : World} {A₀ A : Around} {s : Shared} {base h₀ g h : Heap} {outer : List Env} {L L' f : Addr} {m m' : Str → Option Value} {ce : Env} {news news' : Led}
  {R : Result → Shared → Prop} {name qual : Str} {params : Arguments} {body : List Stmt} {scope : Scope} {dV kV doc pm cdv ct oc : Value} {an od : Option Addr} {osl : Array (Option Value)} {args : Args} {binds : List (Str × Value)}
  {K : Frag} {p : Program} {loose : List Str} {mean : ExcName → Option Value} {mg mb : Str → Option Value}
theorem frC (FG : Fr h₀ L g m) (F' : Fr g L' h m') : Fr h₀ L h m := ⟨FG.ns.at' fun o e => F'.keep _ o e, fun b o e => F'.keep b o (FG.keep b o e), FG.above⟩
theorem newsC (FG : Fr h₀ L g m) (N' : News g L' h news') : News h₀ L h news' := fun q hq => by
  refine Classical.byContradiction fun hn9 => ?_
  obtain ⟨h1, h2, h3⟩ := N' q hq
  refine hn9 ?_
  clear hn9
  refine ⟨h1, fun e => ?_, ?_⟩
  · refine Classical.byContradiction fun hn9 => ?_
    obtain ⟨oL, _, _, hL, _⟩ := FG.ns
    refine hn9 ?_
    clear hn9
    rw [e, hL] at h3; cases h3
  · cases e : h₀.get? q.1 with
    | none => rfl
    | some o => rw [FG.keep _ _ e] at h3; cases h3
theorem turnC (hf : ce.frame = some L) (B : Below A₀ base outer h₀) (FG : Fr h₀ L g m) {g2 : Heap} (T : KtsTurn (frs (ce :: outer)) g g2) :
    ∃ h₀', KtsTurn (frs outer) h₀ h₀' ∧ Fr h₀' L g2 m ∧ Below A₀ base outer h₀' := by
  refine turn_caller (cn := Str.ofString "") (cs := ce.scope) (a := 0) (ccd := .none) B FG ?_
  have e : frs (ce :: outer) = frs (envOf (Str.ofString "") ce.scope L 0 .none :: outer) := by
    unfold frs
    rw [List.filterMap_cons, List.filterMap_cons, hf]
    rfl
  rw [← e]; exact T
theorem leaveC (hf : ce.frame = some L) (B : Below A₀ base outer h₀) (FG : Fr h₀ L g m) (XB : K.In base) (TB : Top p loose mean mg mb base) (D : KtsDicts (outer.filterMap (·.frame)) h₀) {v : Value} {s' : Shared}
    (hl : LeaveS ((ce :: outer).filterMap (·.frame)) A₀ base outer K p loose mean mg mb h₀ h₀ L m g R v s') : R (.ok (.ret v)) s' := by
  rcases hl with ⟨L', m', news', F', N', k⟩ | ⟨g', L', m', news', T', F', N', k⟩
  · exact k (frC FG F') (newsC FG N')
  · refine Classical.byContradiction fun hn9 => ?_
    obtain ⟨h₀', T₁, F₁, B₁⟩ := turnC hf B FG T'
    refine hn9 ?_
    clear hn9
    exact k h₀' T₁ (frC F₁ F') (newsC F₁ N') B₁ (XB.keeps B₁.stays) (TB.keeps B₁.stays) (D.turn T₁)
theorem dictsC (hf : ce.frame = some L) (FG : Fr h₀ L g m) (D : KtsDicts (outer.filterMap (·.frame)) h₀) : KtsDicts ((ce :: outer).filterMap (·.frame)) g := by
  intro b hb
  rw [List.filterMap_cons, hf] at hb
  rcases List.mem_cons.mp hb with rfl | hb
  · refine Classical.byContradiction fun hn9 => ?_
    obtain ⟨oL, es, ep, hL, hd, _⟩ := FG.ns
    refine hn9 ?_
    clear hn9
    exact ⟨oL, es, ep, hL, hd⟩
  · refine Classical.byContradiction fun hn9 => ?_
    obtain ⟨o, es, n, ho, hd⟩ := D b hb
    refine hn9 ?_
    clear hn9
    exact ⟨o, es, n, FG.keep _ _ ho, hd⟩
/-- a def without cells, called from any frame, under a ground that may turn -/
theorem enterC (hf : ce.frame = some L) (hke : ce.scope.kind = .function) (B : Below A₀ base outer h₀) (F : Fr h₀ L s.heap m) (X₀ : K.In h₀) (N : News h₀ L s.heap news) (T : Top p loose mean mg mb h₀) (XB : K.In base) (TB : Top p loose mean mg mb base) (D : KtsDicts (outer.filterMap (·.frame)) h₀)
    (hA : A.frames = some (ce :: outer)) (ho : K.lookup f = some ⟨oc, od, .func (fnOf name qual params body scope dV kV doc pm an cdv ct), osl⟩) (hcd : codeIn K cdv qual = true) (hroom : A.depth < recursionLimit)
    (hbind : BindsTo s (fnOf name qual params body scope dV kV doc pm an cdv ct) args binds) (hloc : ∀ y ∈ binds, scope.names.lookup y.1 = some .local)
    (h : ∀ g L' h₁, Fr h₀ L g m → Fr g L' h₁ (fun y => binds.reverse.lookup y) → News g L' h₁ news → Below A base (ce :: outer) g → K.In g → Top p loose mean mg mb g → KtsDicts ((ce :: outer).filterMap (·.frame)) g →
      wpAny (model prog w) (A.deeper (envOf qual scope L' f cdv)) (execs body (envOf qual scope L' f cdv))
        (fun fl s' => LeaveS ((ce :: outer).filterMap (·.frame)) A₀ base outer K p loose mean mg mb h₀ h₀ L m g R (match fl with | .ret v => v | _ => .none) s')
        (fun e s' => wpAny (model prog w) (A.deeper (envOf qual scope L' f cdv)) (leaving (envOf qual scope L' f cdv) e) (fun _ s'' => R (.error e) s'') (fun e' s'' => R (.error e') s'') s')
        { s with heap := h₁, toks := s.toks + binds.length })
    (hco : scope.isCoroutine = false) (hgen : scope.isGenerator = false) (hk : scope.kind = .function) (hcell : ∀ x ∈ scope.names, x.2 ≠ .cell) : codeAny (model prog w) A (.call (.ref f) args) R s := by
  refine Classical.byContradiction fun hn9 => ?_
  obtain ⟨FG, BG, st, _⟩ := groundX (R := R) B F N hA hf hke
  refine hn9 ?_
  clear hn9
  have X := X₀.keeps F.keep
  refine codeAny_call_def (fd := fnOf name qual params body scope dV kV doc pm an cdv ct) (body := body) (binds := binds) hroom (X _ _ ho) rfl (T.nolimit.keeps F.keep) (codeRec_of X hcd) rfl hbind hcell hloc (fun h₁ hns hk₁ => ?_) hco hgen hk
  exact wpAny_mono (h _ s.heap.objs.size h₁ FG ⟨hns, fun b o e => hk₁ b o (of_hideAll _ e), Nat.le_of_eq (hideAll_size _ _)⟩
    (fun p hp => ⟨hk₁ _ _ (N p hp).1, Nat.ne_of_lt (Heap.lt_size (N p hp).1), hideAll_none _ (List.mem_map_of_mem hp)⟩) BG (X₀.keeps st) (T.keeps st) (dictsC hf FG D)) (fun fl s' hl => leaveC hf B FG XB TB D hl) fun _ _ y => y
/-- a def with cells, called from any frame, under a ground that may turn -/
theorem enterCC (hf : ce.frame = some L) (hke : ce.scope.kind = .function) (B : Below A₀ base outer h₀) (F : Fr h₀ L s.heap m) (X₀ : K.In h₀) (N : News h₀ L s.heap news) (T : Top p loose mean mg mb h₀) (XB : K.In base) (TB : Top p loose mean mg mb base) (D : KtsDicts (outer.filterMap (·.frame)) h₀)
    (hA : A.frames = some (ce :: outer)) (ho : K.lookup f = some ⟨oc, od, .func (fnX name qual params body scope [] dV kV doc pm an cdv ct), osl⟩) (hcd : codeIn K cdv qual = true) (hroom : A.depth < recursionLimit)
    (hbind : BindsTo s (fnX name qual params body scope [] dV kV doc pm an cdv ct) args binds)
    (hkind : ∀ n, ∀ x ∈ binds, scope.names.lookup x.1 = some .local ∨ (scope.names.lookup x.1 = some .cell ∧ ((cellsFrom n scope.names []).lookup x.1).isSome = true))
    (hnd : ((cellsFrom 0 scope.names []).map (·.1)).Nodup)
    (h : ∀ g L' h₁ tk cells, Fr h₀ L g m → Fr g L' h₁ (bindL (envOfC qual scope L' f cdv).kindOf binds fun _ => none) → News g L' h₁ (cells ++ news) →
      CellsAre (bindC (envOfC qual scope L' f cdv).kindOf binds fun _ => none) (cellsFrom (L' + 1) scope.names []) cells → (∀ p ∈ news, p.1 < L') → Below A base (ce :: outer) g → K.In g → Top p loose mean mg mb g → KtsDicts ((ce :: outer).filterMap (·.frame)) g →
      wpAny (model prog w) (A.deeper (envOfC qual scope L' f cdv)) (execs body (envOfC qual scope L' f cdv))
        (fun fl s' => LeaveS ((ce :: outer).filterMap (·.frame)) A₀ base outer K p loose mean mg mb h₀ h₀ L m g R (match fl with | .ret v => v | _ => .none) s')
        (fun e s' => wpAny (model prog w) (A.deeper (envOfC qual scope L' f cdv)) (leaving (envOfC qual scope L' f cdv) e) (fun _ s'' => R (.error e) s'') (fun e' s'' => R (.error e') s'') s')
        { s with heap := h₁, toks := tk })
    (hco : scope.isCoroutine = false) (hgen : scope.isGenerator = false) (hk : scope.kind = .function) : codeAny (model prog w) A (.call (.ref f) args) R s := by
  refine Classical.byContradiction fun hn9 => ?_
  obtain ⟨FG, BG, st, _⟩ := groundX (R := R) B F N hA hf hke
  refine hn9 ?_
  clear hn9
  have X := X₀.keeps F.keep
  refine codeAny_call_function hroom (X _ _ ho) rfl hco hgen rfl (codeRec_of X hcd) (hbind _ _ _ _ ?_)
  refine wpAny_newFunctionEnv_cells hk (hkind _) fun env' he s' x => ?_
  subst he
  refine ⟨(T.nolimit.keeps F.keep).keeps x.toInCall.keep, codeAny_func ?_⟩
  refine Classical.byContradiction fun hn9 => ?_
  obtain ⟨h₁, tk, rfl, _⟩ := x.done
  refine hn9 ?_
  clear hn9
  have hk₁ := x.toInCall.keep
  refine Classical.byContradiction fun hn9 => ?_
  obtain ⟨cells, NC, Y⟩ := Cl.news (h₀ := s.heap) (Nat.le_refl _) fun n c hm => ⟨x.cell n c (lookup_of_mem_nodup (cellsFrom_names scope.names 0 (s.heap.objs.size + 1) [] [] rfl ▸ hnd) hm), x.above n c hm⟩
  refine hn9 ?_
  clear hn9
  refine wpAny_mono (h _ s.heap.objs.size h₁ tk cells FG ⟨x.toInCall.ns, fun b o e => hk₁ b o (of_hideAll _ e), Nat.le_of_eq (hideAll_size _ _)⟩ (fun p hp => ?_) Y (fun p hp => Heap.lt_size (N p hp).1) BG (X₀.keeps st) (T.keeps st) (dictsC hf FG D)) (fun fl s' hl => leaveC hf B FG XB TB D hl) fun _ _ y => y
  rcases List.mem_append.mp hp with hp | hp
  · refine ⟨(NC p hp).1, (NC p hp).2.1, ?_⟩
    cases q : (hideAll s.heap (news.map (·.1))).get? p.1 with
    | none => rfl
    | some o => have := of_hideAll _ q; rw [(NC p hp).2.2] at this; cases this
  · exact ⟨hk₁ _ _ (N p hp).1, Nat.ne_of_lt (Heap.lt_size (N p hp).1), hideAll_none _ (List.mem_map_of_mem hp)⟩
end
end Mine
-- TgU
open PySem PySem.W PySem.Calls PyProof.Rows
namespace Mine

theorem tellG_use {w : World} {mean : ExcName → Option Value} {mg mb : Str → Option Value} {D U : Nat} {f : Addr} {args : List Value} {news : Led} {Post : Value → Led → Prop} {PostE : Led → Prop}
    {dp un : Nat} {gd : Option (List Code)} {cn : Str} {cs : Scope} {a : Addr} {ccd : Value} {cl : List (Str × Addr)} {outer : List Env} {A₀ : Around} {base h₀ : Heap} {L : Addr} {m : Str → Option Value} {s : Shared} {Q E : Value → Shared → Prop}
    (C : TellG w mean mg mb D U f args news Post PostE) (B : Below A₀ base outer h₀) (F : Fr h₀ L s.heap m) (X : (hd.heap_39 w.params).In h₀) (N : News h₀ L s.heap news)
    (T : Top hd.view_39 (looseW hd.view_39 [Str.ofString "_NodeInfo", Str.ofString "_filemode_table"]) mean mg mb h₀) (XB : (hd.heap_39 w.params).In base) (TB : Top hd.view_39 (looseW hd.view_39 [Str.ofString "_NodeInfo", Str.ofString "_filemode_table"]) mean mg mb base)
    (KD : KtsDicts (outer.filterMap (·.frame)) h₀) (hk : cs.kind = .function) (hdp : dp + D < recursionLimit) (hu : un + U < cLine)
    (ret : ∀ v news' h' tk' h₀', Post v news' → KtsTurn (outer.filterMap (·.frame)) h₀ h₀' → Fr h₀' L h' m → News h₀' L h' news' → Below A₀ base outer h₀' → (hd.heap_39 w.params).In h₀' →
      Top hd.view_39 (looseW hd.view_39 [Str.ofString "_NodeInfo", Str.ofString "_filemode_table"]) mean mg mb h₀' → KtsDicts (outer.filterMap (·.frame)) h₀' → Q v { s with heap := h', toks := tk' })
    (exc : ∀ e t vs newsE h' tk' G h₀', PostE newsE → KtsTurn (outer.filterMap (·.frame)) h₀ h₀' → Fr h₀' L G m → Below A₀ base outer h₀' → (hd.heap_39 w.params).In h₀' →
      Top hd.view_39 (looseW hd.view_39 [Str.ofString "_NodeInfo", Str.ofString "_filemode_table"]) mean mg mb h₀' → KtsDicts (outer.filterMap (·.frame)) h₀' →
      RaisedS base G (envX cn cs L a ccd cl :: outer) e (.ref 170) t vs newsE h' → G.UpToSlots h' → E (.ref e) { s with heap := h', toks := tk' }) :
    wpAny (model PySem.Challenge.rw_pd0160_01.row.prog w) (ktrTop dp un gd cn cs L a ccd cl outer) (call (.ref f) args) Q E s :=
  C dp un gd cn cs a ccd cl outer A₀ base h₀ L m s Q E B F X N T XB TB KD hk hdp hu ret exc
end Mine
-- Dfs
open PySem PySem.W PySem.Calls PyProof.Rows
namespace Mine

/-- one edge and more -/
inductive Path (ss : Str → List Str) : Str → Str → Prop
  | one {x y : Str} : y ∈ ss x → Path ss x y
  | cons {x y z : Str} : y ∈ ss x → Path ss y z → Path ss x z
noncomputable def HasRing (ss : Str → List Str) : Prop := ∃ x, Path ss x x
theorem Path.snoc {ss : Str → List Str} {x y z : Str} (p : Path ss x y) (h : z ∈ ss y) : Path ss x z := by
  induction p with
  | one h1 => exact .cons h1 (.one h)
  | cons h1 _ ih => exact .cons h1 (ih h)
/-- the stack, its top first, beneath the node that comes next -/
noncomputable def Chain (ss : Str → List Str) (fin : List Str) : Option Str → List (Str × Nat) → Prop
  | _, [] => True
  | none, (x, p) :: rest => (∀ j, j < p → ∀ y, (ss x)[j]? = some y → y ∈ fin) ∧ Chain ss fin (some x) rest
  | some n, (x, p) :: rest => (1 ≤ p ∧ (ss x)[p - 1]? = some n ∧ ∀ j, j < p - 1 → ∀ y, (ss x)[j]? = some y → y ∈ fin) ∧ Chain ss fin (some x) rest
structure DInv (ss : Str → List Str) (seen fin : List Str) (nxt : Option Str) (stk : List (Str × Nat)) : Prop where
  mem : ∀ x, x ∈ seen ↔ x ∈ fin ∨ x ∈ stk.map (·.1)
  dis : ∀ x, x ∈ fin → x ∉ stk.map (·.1)
  ndS : (stk.map (·.1)).Nodup
  order : ∀ a x b, fin = a ++ x :: b → ∀ y ∈ ss x, y ∈ a
  chain : Chain ss fin nxt stk
theorem dinv_init (ss : Str → List Str) : DInv ss [] [] none [] := ⟨by simp, by simp, by simp, by simp, trivial⟩
theorem chain_mono {ss : Str → List Str} {fin fin' : List Str} (h : ∀ x, x ∈ fin → x ∈ fin') : ∀ {stk : List (Str × Nat)} {nxt : Option Str}, Chain ss fin nxt stk → Chain ss fin' nxt stk := by
  intro stk
  induction stk with
  | nil => intro nxt _; cases nxt <;> trivial
  | cons e rest ih =>
    obtain ⟨x, p⟩ := e
    intro nxt c
    cases nxt with
    | none => exact ⟨fun j hj y hy => h _ (c.1 j hj y hy), ih c.2⟩
    | some n => exact ⟨⟨c.1.1, c.1.2.1, fun j hj y hy => h _ (c.1.2.2 j hj y hy)⟩, ih c.2⟩
theorem dinv_any {ss : Str → List Str} {seen fin : List Str} {nxt nxt' : Option Str} (h : DInv ss seen fin nxt []) : DInv ss seen fin nxt' [] := ⟨h.mem, h.dis, h.ndS, h.order, by cases nxt' <;> trivial⟩
theorem dinv_push {ss : Str → List Str} {seen fin : List Str} {n : Str} {stk : List (Str × Nat)} (h : DInv ss seen fin (some n) stk) (hn : n ∉ seen) : DInv ss (n :: seen) fin none ((n, 0) :: stk) := by
  have hf : n ∉ fin := fun q => hn ((h.mem n).mpr (.inl q))
  have hs : n ∉ stk.map (·.1) := fun q => hn ((h.mem n).mpr (.inr q))
  refine ⟨?_, ?_, ?_, h.order, ⟨fun j hj => absurd hj (Nat.not_lt_zero _), ?_⟩⟩
  · intro x
    rw [List.map_cons, List.mem_cons, List.mem_cons, h.mem x]
    constructor
    · rintro (q | q | q)
      · exact .inr (.inl q)
      · exact .inl q
      · exact .inr (.inr q)
    · rintro (q | q | q)
      · exact .inr (.inl q)
      · exact .inl q
      · exact .inr (.inr q)
  · intro x hx hm
    rw [List.map_cons, List.mem_cons] at hm
    rcases hm with rfl | hm
    · exact hf hx
    · exact h.dis x hx hm
  · rw [List.map_cons, List.nodup_cons]; exact ⟨hs, h.ndS⟩
  · exact h.chain
theorem chain_path {ss : Str → List Str} {fin : List Str} : ∀ {stk : List (Str × Nat)} {n z : Str}, Chain ss fin (some n) stk → z ∈ stk.map (·.1) → Path ss z n := by
  intro stk
  induction stk with
  | nil => intro n z _ h; cases h
  | cons e rest ih =>
    obtain ⟨x, p⟩ := e
    intro n z c h
    have h1 : n ∈ ss x := List.mem_of_getElem? c.1.2.1
    rw [List.map_cons, List.mem_cons] at h
    rcases h with rfl | h
    · exact .one h1
    · exact (ih c.2 h).snoc h1
theorem dinv_ring {ss : Str → List Str} {seen fin : List Str} {n : Str} {stk : List (Str × Nat)} (h : DInv ss seen fin (some n) stk) (hm : n ∈ stk.map (·.1)) : HasRing ss := ⟨n, chain_path h.chain hm⟩
theorem dinv_old {ss : Str → List Str} {seen fin : List Str} {n : Str} {stk : List (Str × Nat)} (h : DInv ss seen fin (some n) stk) (hs : n ∈ seen) (hm : n ∉ stk.map (·.1)) : DInv ss seen fin none stk := by
  have hf : n ∈ fin := ((h.mem n).mp hs).resolve_right hm
  refine ⟨h.mem, h.dis, h.ndS, h.order, ?_⟩
  have c := h.chain
  cases stk with
  | nil => trivial
  | cons e rest =>
    obtain ⟨x, p⟩ := e
    refine ⟨fun j hj y hy => ?_, c.2⟩
    by_cases q : j < p - 1
    · exact c.1.2.2 j q y hy
    · have : j = p - 1 := by omega
      subst this
      have := c.1.2.1
      rw [hy] at this
      rw [Option.some.inj this]
      exact hf
theorem dinv_next {ss : Str → List Str} {seen fin : List Str} {n x : Str} {p : Nat} {stk : List (Str × Nat)} (h : DInv ss seen fin none ((x, p) :: stk)) (hn : (ss x)[p]? = some n) : DInv ss seen fin (some n) ((x, p + 1) :: stk) :=
  ⟨h.mem, h.dis, h.ndS, h.order, ⟨⟨by omega, by simpa using hn, fun j hj y hy => h.chain.1 j (by omega) y hy⟩, h.chain.2⟩⟩
theorem dinv_pop {ss : Str → List Str} {seen fin : List Str} {x : Str} {p : Nat} {stk : List (Str × Nat)} (h : DInv ss seen fin none ((x, p) :: stk)) (hp : (ss x).length ≤ p) : DInv ss seen (fin ++ [x]) none stk := by
  have hall : ∀ y ∈ ss x, y ∈ fin := by
    intro y hy
    obtain ⟨j, hj⟩ := List.getElem?_of_mem hy
    have hlt : j < (ss x).length := (List.getElem?_eq_some_iff.mp hj).1
    exact h.chain.1 j (by omega) y hj
  have hnd := h.ndS
  rw [List.map_cons, List.nodup_cons] at hnd
  refine ⟨?_, ?_, hnd.2, ?_, ?_⟩
  · intro y
    rw [h.mem y, List.map_cons, List.mem_cons, List.mem_append, List.mem_singleton]
    constructor
    · rintro (q | q | q)
      · exact .inl (.inl q)
      · exact .inl (.inr q)
      · exact .inr q
    · rintro ((q | q) | q)
      · exact .inl q
      · exact .inr (.inl q)
      · exact .inr (.inr q)
  · intro y hy hm
    rcases List.mem_append.mp hy with hy | hy
    · exact h.dis y hy (by rw [List.map_cons]; exact .tail _ hm)
    · rw [List.mem_singleton.mp hy] at hm; exact hnd.1 hm
  · intro a z b e y hy
    rcases List.append_eq_append_iff.mp e with ⟨c, e1, e2⟩ | ⟨c, e1, e2⟩
    · cases c with
      | nil =>
        simp at e2 e1
        obtain ⟨rfl, _⟩ := e2
        rw [e1]; exact hall y hy
      | cons c0 c =>
        simp at e2
    · cases c with
      | nil =>
        simp at e1 e2
        obtain ⟨rfl, _⟩ := e2
        rw [← e1]; exact hall y hy
      | cons c0 c =>
        simp only [List.cons_append, List.cons.injEq] at e2
        obtain ⟨rfl, e2⟩ := e2
        exact h.order a z c e1 y hy
  · have c := h.chain.2
    cases stk with
    | nil => trivial
    | cons e rest =>
      obtain ⟨y, q⟩ := e
      refine ⟨fun j hj z hz => ?_, chain_mono (fun _ h => List.mem_append_left _ h) c.2⟩
      by_cases hq : j < q - 1
      · exact List.mem_append_left _ (c.1.2.2 j hq z hz)
      · have : j = q - 1 := by omega
        subst this
        have := c.1.2.1
        rw [hz] at this
        rw [Option.some.inj this]
        simp
theorem order_path {ss : Str → List Str} {fin : List Str} (h : ∀ a x b, fin = a ++ x :: b → ∀ y ∈ ss x, y ∈ a) {x z : Str} (p : Path ss x z) : ∀ a b, fin = a ++ x :: b → z ∈ a := by
  induction p with
  | one h1 => intro a b e; exact h a _ b e _ h1
  | @cons x y z h1 _ ih =>
    intro a b e
    have h2 := h a x b e y h1
    obtain ⟨c, d, rfl⟩ := List.append_of_mem h2
    have := ih c (d ++ x :: b) (by rw [e]; simp)
    exact List.mem_append_left _ this
theorem first_split {x : Str} : ∀ {l : List Str}, x ∈ l → ∃ a b, l = a ++ x :: b ∧ x ∉ a := by
  intro l
  induction l with
  | nil => intro h; cases h
  | cons y l ih =>
    intro h
    by_cases q : x = y
    · subst q; exact ⟨[], l, rfl, by simp⟩
    · have : x ∈ l := by
        rcases List.mem_cons.mp h with h | h
        · exact absurd h q
        · exact h
      obtain ⟨a, b, e, hn⟩ := ih this
      refine ⟨y :: a, b, by rw [e]; rfl, ?_⟩
      intro hm
      rcases List.mem_cons.mp hm with hm | hm
      · exact q hm
      · exact hn hm
theorem dinv_none {ss : Str → List Str} {seen fin names : List Str} {nxt : Option Str} (h : DInv ss seen fin nxt []) (hall : ∀ x ∈ names, x ∈ seen) (hs : ∀ x, ss x ≠ [] → x ∈ names) : ¬ HasRing ss := by
  rintro ⟨x, p⟩
  have hne : ss x ≠ [] := by
    cases p with
    | one h1 => intro e; rw [e] at h1; cases h1
    | cons h1 _ => intro e; rw [e] at h1; cases h1
  have hf : x ∈ fin := by
    have := (h.mem x).mp (hall x (hs x hne))
    simpa using this
  obtain ⟨a, b, e, hn⟩ := first_split hf
  exact hn (order_path h.order p a b e)
/-- what is left of the edges -/
noncomputable def leftOf (ss : Str → List Str) (names seen : List Str) (stk : List (Str × Nat)) : Nat :=
  (names.map fun x => if x ∈ seen then 0 else (ss x).length).sum + (stk.map fun e => (ss e.1).length - e.2).sum
theorem left_push_aux (ss : Str → List Str) (seen : List Str) (n : Str) (hn : n ∉ seen) : ∀ {names : List Str}, names.Nodup →
    (names.map fun x => if x ∈ n :: seen then 0 else (ss x).length).sum + (if n ∈ names then (ss n).length else 0) = (names.map fun x => if x ∈ seen then 0 else (ss x).length).sum := by
  intro names
  induction names with
  | nil => intro _; simp
  | cons y l ih =>
    intro hnd
    rw [List.nodup_cons] at hnd
    have h1 := ih hnd.2
    rw [List.map_cons, List.map_cons, List.sum_cons, List.sum_cons]
    by_cases q : n = y
    · subst q
      rw [if_neg hnd.1] at h1
      rw [if_pos (by simp), if_pos (by simp), if_neg hn]
      omega
    · have e1 : (n ∈ y :: l) ↔ n ∈ l := by simp [q]
      have e2 : (y ∈ n :: seen) ↔ y ∈ seen := by simp [Ne.symm q]
      simp only [e1, e2]
      omega
theorem left_push {ss : Str → List Str} {names seen : List Str} {stk : List (Str × Nat)} {n : Str} (hnd : names.Nodup) (hn : n ∉ seen) (hm : n ∈ names) : leftOf ss names (n :: seen) ((n, 0) :: stk) = leftOf ss names seen stk := by
  have := left_push_aux ss seen n hn hnd
  rw [if_pos hm] at this
  unfold leftOf
  rw [List.map_cons, List.sum_cons]
  simp only [Nat.sub_zero]
  omega
theorem left_next {ss : Str → List Str} {names seen : List Str} {stk : List (Str × Nat)} {x : Str} {p : Nat} (hp : p < (ss x).length) : leftOf ss names seen ((x, p + 1) :: stk) + 1 = leftOf ss names seen ((x, p) :: stk) := by
  unfold leftOf
  rw [List.map_cons, List.sum_cons, List.map_cons, List.sum_cons]
  dsimp only
  omega
theorem left_pop {ss : Str → List Str} {names seen : List Str} {stk : List (Str × Nat)} {x : Str} {p : Nat} (hp : (ss x).length ≤ p) : leftOf ss names seen stk = leftOf ss names seen ((x, p) :: stk) := by
  unfold leftOf
  rw [List.map_cons, List.sum_cons]
  dsimp only
  omega
end Mine
-- Mw
open PySem PySem.W PySem.Calls PyProof.Rows
namespace Mine

namespace Mw
theorem slot_ga : Slot "list_iterator" "__getattribute__" "object.__getattribute__" :=
  .of (owner := "object") (n := "__getattribute__") (by rw [typeLookup_type, builtinLookup_eq_fast]; kernel_rfl) (by decide +kernel) (by decide +kernel) (by decide +kernel)
    (by first | exact .inl (by decide +kernel) | exact .inr (by decide +kernel)) (by rw [isSubtype_type]; kernel_rfl)
theorem owner_next : (".".intercalate ("list_iterator.__next__".cutAt '.').dropLast) = "list_iterator" := by
  have e0 : "list_iterator.__next__".cutAt '.' = ["list_iterator", "__next__"] := by first | rfl | decide +kernel
  rw [e0]; decide +kernel
theorem sub_owner : isSubtype (.type "list_iterator") (.type (".".intercalate ("list_iterator.__next__".cutAt '.').dropLast)) = pure true := by
  rw [owner_next, isSubtype_type]; kernel_rfl
theorem type_next : typeOf (.builtin "list_iterator.__next__") = pure (.type "wrapper_descriptor") := by show builtinType _ = _; rw [builtinType_eq_fast]; kernel_rfl
theorem slot_get : Slot "wrapper_descriptor" "__get__" "wrapper_descriptor.__get__" :=
  .of (owner := "wrapper_descriptor") (n := "__get__") (by rw [typeLookup_type, builtinLookup_eq_fast]; kernel_rfl) (by decide +kernel) (by decide +kernel) (by decide +kernel)
    (by first | exact .inl (by decide +kernel) | exact .inr (by decide +kernel)) (by rw [isSubtype_type]; kernel_rfl)
theorem no_set : typeLookup (.type "wrapper_descriptor") "__set__" = pure none := by rw [typeLookup_type, builtinLookup_eq_fast]; kernel_rfl
theorem no_del : typeLookup (.type "wrapper_descriptor") "__delete__" = pure none := by rw [typeLookup_type, builtinLookup_eq_fast]; kernel_rfl
theorem entry_get : entryFor table "wrapper_descriptor.__get__" = some Builtin.«wrapper_descriptor.__get__» := entryFor_of_fast (by kernel_rfl)
theorem args_get (a b c : Value) : argsOk "wrapper_descriptor.__get__" ⟨[a, b, c], []⟩ := by unfold argsOk; kernel_rfl
section
variable {prog : Program} {w : World} {A : Around} {E : Value → Shared → Prop} {h : Heap} {g : Array GenState} {d : Drawn} {t : Nat} {os : OsState} {a : Addr} {o : Obj}
theorem get_call {R : Result → Shared → Prop} (hx : h.get? a = some o) (hc : o.cls = .type "list_iterator") (hq : R (.ok (.ret (.ref h.objs.size))) ⟨h.push { cls := .type "method-wrapper", data := .fields #[.builtin "list_iterator.__next__", .ref a] }, g, d, t, os⟩) :
    codeAny (model prog w) A (.call (.builtin "wrapper_descriptor.__get__") ⟨[.builtin "list_iterator.__next__", .ref a, .type "list_iterator"], []⟩) R ⟨h, g, d, t, os⟩ := by
  have hT : (⟨h, g, d, t, os⟩ : Shared).TypeIs (.ref a) "list_iterator" := ⟨_, hx, hc⟩
  have hT5 : (⟨h, g, d, t, os⟩ : Shared).TypeIs (.builtin "list_iterator.__next__") "wrapper_descriptor" := type_next
  have f8 := sub_owner
  refine codeAny_call_builtin slot_get.plain entry_get (slot_get.check _ _ _ _ _ _ _ _ hT5 (args_get _ _ _) ?_)
  unfold Builtin.«wrapper_descriptor.__get__»
  repeat (any_goals (first | assumption | wp_step))
end
noncomputable abbrev liO (l : Addr) (i : Nat) : Obj := { cls := .type "list_iterator", data := .fields #[.ref l, .int i 0] }
noncomputable abbrev mwO (a : Addr) : Obj := { cls := .type "method-wrapper", data := .fields #[.builtin "list_iterator.__next__", .ref a] }
section
variable {prog : Program} {w : World} {A : Around} {E : Value → Shared → Prop} {h : Heap} {g : Array GenState} {d : Drawn} {t : Nat} {os : OsState} {a : Addr} {vs : Array Value}
theorem ga_entry {tk : Tok} {Q : Fin → Shared → Prop} (hx : h.get? a = some { cls := .type "list_iterator", data := .fields vs }) (hq : Q (.done (.ret (.ref h.objs.size))) ⟨h.push (mwO a), g, d, t, os⟩) :
    wpAny (model prog w) A (Builtin.«object.__getattribute__» ⟨[.ref a, .str "__next__" tk], []⟩) Q E ⟨h, g, d, t, os⟩ := by
  have hT : (⟨h, g, d, t, os⟩ : Shared).TypeIs (.ref a) "list_iterator" := ⟨_, hx, rfl⟩
  have hT5 : (⟨h, g, d, t, os⟩ : Shared).TypeIs (.builtin "list_iterator.__next__") "wrapper_descriptor" := type_next
  have f4 := slot_listiter_next.lookup
  have f5 := type_next
  have f6 := slot_get.lookup
  have f7 := no_set
  have f8 := no_del
  repeat (any_goals (first | assumption | wp_step))
  refine get_call hx rfl ?_
  repeat (any_goals (first | assumption | wp_step))
theorem bound_ok : checkBoundCall "list_iterator.__next__" ⟨[.ref a], []⟩ = pure () := by
  unfold checkBoundCall
  kernel_rfl
end
end Mw
end Mine
-- Lc
open PySem PySem.W PySem.Calls PyProof.Rows
namespace Mine

open LCg LCt
noncomputable abbrev lstO (ys : List Value) : Obj := LCg.lst ys
section
variable {prog : Program} {w : World} {A : Around} {E : Value → Shared → Prop} {s : Shared} {h₀ : Heap} {L : Addr} {m : Str → Option Value} {env : Env}
noncomputable def CompItT (prog : Program) (w : World) (A : Around) (h₀ : Heap) (L : Addr) (m : Str → Option Value) (env : Env) (ct elt : PySem.Expr) (x : Str) (scope : Scope) (cl : List (Str × Addr)) (Fin : Shared → List Value → Led → Prop) (it : Value) (s₂ : Shared) : Prop :=
  ∃ (I : Addr) (fp : List Addr) (n : Nat) (P : Nat → Value → Prop) (St : Nat → Heap → Prop) (S : Led → Prop) (news : Led), it = .ref I ∧ Walks prog w A I fp [I] n P St ∧ n ≤ sizeLine ∧ (∀ i h, St i h → ∃ o, h.get? I = some o) ∧
    (∀ i h h' o nw, St i h → h.get? I = some o → h'.get? I = some o → (∀ b o, h₀.get? b = some o → h'.get? b = some o) → News h₀ L h' nw → S nw → St i h') ∧ St 0 s₂.heap ∧ (∀ b ∈ fp, b < s₂.heap.objs.size) ∧
    Fr h₀ L s₂.heap m ∧ News h₀ L s₂.heap news ∧ L ≠ I ∧ h₀.get? I = none ∧ (∀ p ∈ news, p.1 ≠ I) ∧ S news ∧ CompRestT prog w A h₀ L m env ct elt x scope cl s₂ S P (Fin s₂) n 0 [] news
noncomputable def CompItU (prog : Program) (w : World) (A : Around) (h₀ : Heap) (L : Addr) (m : Str → Option Value) (env : Env) (elt : PySem.Expr) (x : Str) (scope : Scope) (cl : List (Str × Addr)) (Fin : Shared → List Value → Led → Prop) (it : Value) (s₂ : Shared) : Prop :=
  ∃ (I : Addr) (fp : List Addr) (n : Nat) (P : Nat → Value → Prop) (St : Nat → Heap → Prop) (S : Led → Prop) (news : Led), it = .ref I ∧ Walks prog w A I fp [I] n P St ∧ n ≤ sizeLine ∧ (∀ i h, St i h → ∃ o, h.get? I = some o) ∧
    (∀ i h h' o nw, St i h → h.get? I = some o → h'.get? I = some o → (∀ b o, h₀.get? b = some o → h'.get? b = some o) → News h₀ L h' nw → S nw → St i h') ∧ St 0 s₂.heap ∧ (∀ b ∈ fp, b < s₂.heap.objs.size) ∧
    Fr h₀ L s₂.heap m ∧ News h₀ L s₂.heap news ∧ L ≠ I ∧ h₀.get? I = none ∧ (∀ p ∈ news, p.1 ≠ I) ∧ S news ∧ CompRest prog w A h₀ L m env elt x scope cl s₂ S P (Fin s₂) n 0 [] news
theorem fin_lead {D C : Addr} {h : Heap} {tk : Nat} {m' : Str → Option Value} {ys : List Value} {news' : Led} {s₂ : Shared} {Q : Value → Shared → Prop} (F' : Fr h₀ L h m) (N' : News h₀ L h ((D, LCg.lst ys) :: news')) (o1 : Off1 D news') (hC₀ : h₀.get? C = none) (hCL : C ≠ L) (hCD : C ≠ D) (offC : ∀ p ∈ news', p.1 ≠ C) (fin : FinE h₀ L m s₂ Q ys news') :
    ∀ h'', Heap.SameBut C h h'' → Q (.ref D) { s₂ with heap := h'', toks := tk } := fun h'' hs'' => fin D h'' tk (F'.change hs'' hCL hC₀) (fun p hp => by
      refine ⟨hs''.extBut _ _ ?_ (N' p hp).1, (N' p hp).2⟩
      rcases List.mem_cons.mp hp with rfl | hp
      · exact Ne.symm hCD
      · exact offC p hp) o1
theorem ListComp_GT {ct elt iter : PySem.Expr} {x : Str} {px : Pos} {scope : Scope} {cl : List (Str × Addr)} {pos : Pos} {Q : Value → Shared → Prop} (F₀ : Fr h₀ L s.heap m)
    (hclos : closureFor scope env = pure cl) (hcell : ∀ y ∈ scope.names, y.2 ≠ .cell) (hkind : scope.kind = .function)
    (hnames : ∀ y ∈ scope.names, y.2 = .local → scope.names.lookup y.1 = some .local) (hx : scope.names.lookup x = some .local)
    (h : wpAny (model prog w) A (eval iter env) (fun xv s₁ => wpAny (model prog w) A (pyIter xv) (CompItT prog w A h₀ L m env ct elt x scope cl (fun s₂ => FinE h₀ L m s₂ Q)) E s₁) E s)
    (hs : ∀ x, foldedSetIterable iter env x = pure x := by intro _; rfl) :
    wpAny (model prog w) A (eval (.ListComp elt [⟨.Name x px, iter, [ct], 0⟩] scope pos) env) Q E s := by
  rw [eval_ListComp]
  refine wpAny_comprehension_free (use := none) rfl hs hclos hkind hnames (wpAny_mono h (fun xv s₁ h₁ => wpAny_mono h₁ (fun it s₂ h₂ => ?_) fun _ _ e => e) fun _ _ e => e)
  refine Classical.byContradiction fun hn9 => ?_
  obtain ⟨I, fp, n, P, St, S, news, rfl, W, hsz, hIo, hSt, hst, hfp, F, N, hIL, hI₀, off, hS, R⟩ := h₂
  refine hn9 ?_
  clear hn9
  refine block_T W hsz hIo hSt hcell hkind hx hst hfp F N hIL hI₀ off hS R ?_
  intro D C h tk m' ys news' F' N' o1 hn hC₀ hD₀ hCL hDL hCD offC fin
  exact ⟨m', hn, fin_lead (m' := m') F' N' o1 hC₀ hCL hCD offC fin⟩
theorem ListComp_GU {elt iter : PySem.Expr} {x : Str} {px : Pos} {scope : Scope} {cl : List (Str × Addr)} {pos : Pos} {Q : Value → Shared → Prop} (F₀ : Fr h₀ L s.heap m)
    (hclos : closureFor scope env = pure cl) (hcell : ∀ y ∈ scope.names, y.2 ≠ .cell) (hkind : scope.kind = .function)
    (hnames : ∀ y ∈ scope.names, y.2 = .local → scope.names.lookup y.1 = some .local) (hx : scope.names.lookup x = some .local)
    (h : wpAny (model prog w) A (eval iter env) (fun xv s₁ => wpAny (model prog w) A (pyIter xv) (CompItU prog w A h₀ L m env elt x scope cl (fun s₂ => FinE h₀ L m s₂ Q)) E s₁) E s)
    (hs : ∀ x, foldedSetIterable iter env x = pure x := by intro _; rfl) :
    wpAny (model prog w) A (eval (.ListComp elt [⟨.Name x px, iter, [], 0⟩] scope pos) env) Q E s := by
  rw [eval_ListComp]
  refine wpAny_comprehension_free (use := none) rfl hs hclos hkind hnames (wpAny_mono h (fun xv s₁ h₁ => wpAny_mono h₁ (fun it s₂ h₂ => ?_) fun _ _ e => e) fun _ _ e => e)
  refine Classical.byContradiction fun hn9 => ?_
  obtain ⟨I, fp, n, P, St, S, news, rfl, W, hsz, hIo, hSt, hst, hfp, F, N, hIL, hI₀, off, hS, R⟩ := h₂
  refine hn9 ?_
  clear hn9
  refine block_U W hsz hIo hSt hcell hkind hx hst hfp F N hIL hI₀ off hS R ?_
  intro D C h tk m' ys news' F' N' o1 hn hC₀ hD₀ hCL hDL hCD offC fin
  exact ⟨m', hn, fin_lead (m' := m') F' N' o1 hC₀ hCL hCD offC fin⟩
theorem CompEnd.mono {s₁ s₂ : Shared} {I C D : Addr} {oI oC oD : Obj} {S : Led → Prop} {r r' : Value → Led → Prop} {y : Value} (h : ∀ n, S n → r y n → r' y n) (c : CompEnd h₀ L m s₁ I oI C oC D oD S r y s₂) : CompEnd h₀ L m s₁ I oI C oC D oD S r' y s₂ := by
  refine Classical.byContradiction fun hn9 => ?_
  obtain ⟨h', tk, n, e, F, N, o, hS, hr⟩ := c
  refine hn9 ?_
  clear hn9
  exact ⟨h', tk, n, e, F, N, o, hS, h n hS hr⟩
/-- a comprehension with a test by an invariant -/
theorem restT {ct elt : PySem.Expr} {x : Str} {scope : Scope} {cl : List (Str × Addr)} {S : Led → Prop} {P : Nat → Value → Prop} {Fin : List Value → Led → Prop} {n : Nat} (Inv : Nat → List Value → Led → Prop)
    (step : ∀ i v I oI C oC D m₂ h tk (E' : Value → Shared → Prop) ys news, i < n → P i v → Inv i ys news → NsObj oC m₂ → m₂ x = some v → Fr h₀ L h m → News h₀ L h ((I, oI) :: (C, oC) :: (D, LCg.lst ys) :: news) → Off3 I C D news → ((@Ne Nat I C) ∧ (@Ne Nat I D) ∧ (@Ne Nat C D)) →
      wpAny (model prog w) A (isTrue ct (compEnvC scope cl C env) (eval ct (compEnvC scope cl C env))) (fun ok s' => if ok = true then
        wpAny (model prog w) A (eval elt (compEnvC scope cl C env)) (CompEnd h₀ L m { s with heap := h, toks := tk } I oI C oC D (LCg.lst ys) S (fun y news' => Inv (i + 1) (ys ++ [y]) news')) E' s'
        else CompEnd h₀ L m { s with heap := h, toks := tk } I oI C oC D (LCg.lst ys) S (fun _ news' => Inv (i + 1) ys news') Value.none s') E' { s with heap := h, toks := tk })
    (fin : ∀ ys news, Inv n ys news → Fin ys news) : ∀ k i ys news, i + k = n → Inv i ys news → CompRestT prog w A h₀ L m env ct elt x scope cl s S P Fin k i ys news := by
  intro k
  induction k with
  | zero => intro i ys news e hi; have : i = n := by omega
            subst this; exact fin ys news hi
  | succ k ih =>
    intro i ys news e hi v I oI C oC D m₂ h tk E' hP hn hx F N o hne
    refine wpAny_mono (step i v I oI C oC D m₂ h tk E' ys news (by omega) hP hi hn hx F N o hne) (fun ok s' hk => ?_) fun _ _ e => e
    cases ok with
    | true =>
      simp only [if_true] at hk ⊢
      exact wpAny_mono hk (fun y s₂ c => CompEnd.mono (fun n' _ hr => ih (i + 1) _ _ (by omega) hr) c) fun _ _ e => e
    | false =>
      simp only [Bool.false_eq_true, if_false] at hk ⊢
      exact CompEnd.mono (fun n' _ hr => ih (i + 1) _ _ (by omega) hr) hk
theorem restU {elt : PySem.Expr} {x : Str} {scope : Scope} {cl : List (Str × Addr)} {S : Led → Prop} {P : Nat → Value → Prop} {Fin : List Value → Led → Prop} {n : Nat} (Inv : Nat → List Value → Led → Prop)
    (step : ∀ i v I oI C oC D m₂ h tk (E' : Value → Shared → Prop) ys news, i < n → P i v → Inv i ys news → NsObj oC m₂ → m₂ x = some v → Fr h₀ L h m → News h₀ L h ((I, oI) :: (C, oC) :: (D, LCg.lst ys) :: news) → Off3 I C D news → ((@Ne Nat I C) ∧ (@Ne Nat I D) ∧ (@Ne Nat C D)) →
      wpAny (model prog w) A (eval elt (compEnvC scope cl C env)) (CompEnd h₀ L m { s with heap := h, toks := tk } I oI C oC D (LCg.lst ys) S (fun y news' => Inv (i + 1) (ys ++ [y]) news')) E' { s with heap := h, toks := tk })
    (fin : ∀ ys news, Inv n ys news → Fin ys news) : ∀ k i ys news, i + k = n → Inv i ys news → CompRest prog w A h₀ L m env elt x scope cl s S P Fin k i ys news := by
  intro k
  induction k with
  | zero => intro i ys news e hi; have : i = n := by omega
            subst this; exact fin ys news hi
  | succ k ih =>
    intro i ys news e hi v I oI C oC D m₂ h tk E' hP hn hx F N o hne
    exact wpAny_mono (step i v I oI C oC D m₂ h tk E' ys news (by omega) hP hi hn hx F N o hne) (fun y s₂ c => CompEnd.mono (fun n' _ hr => ih (i + 1) _ _ (by omega) hr) c) fun _ _ e => e
theorem val_st {d I : Addr} {od : Obj} {kvs : List (Str × Value)} {ep : Nat} (ha : KdkAt (strKind prog w) od kvs ep) : ∀ i (h h' : Heap) (o : Obj) (nw : Led), (h.IsValIter I d i kvs.length ep ∧ h.DictAt (strKind prog w) d kvs ep) → h.get? I = some o → h'.get? I = some o → (∀ b o, h₀.get? b = some o → h'.get? b = some o) → News h₀ L h' nw → (d, od) ∈ nw → (h'.IsValIter I d i kvs.length ep ∧ h'.DictAt (strKind prog w) d kvs ep) :=
  fun i h h' o nw st e e' _ N S => ⟨st.1.at fun o' q => by rw [e] at q; cases q; exact e', ha.dictAt (N _ S).1⟩
theorem key_st {d I : Addr} {od : Obj} {kvs : List (Str × Value)} {ep : Nat} (ha : KdkAt (strKind prog w) od kvs ep) : ∀ i (h h' : Heap) (o : Obj) (nw : Led), (h.IsKeyIter I d i kvs.length ep ∧ h.DictAt (strKind prog w) d kvs ep) → h.get? I = some o → h'.get? I = some o → (∀ b o, h₀.get? b = some o → h'.get? b = some o) → News h₀ L h' nw → (d, od) ∈ nw → (h'.IsKeyIter I d i kvs.length ep ∧ h'.DictAt (strKind prog w) d kvs ep) :=
  fun i h h' o nw st e e' _ N S => ⟨st.1.at fun o' q => by rw [e] at q; cases q; exact e', ha.dictAt (N _ S).1⟩
variable {v d : Addr} {od : Obj} {kvs : List (Str × Value)} {news : Led} {ct elt : PySem.Expr} {x : Str} {scope : Scope} {cl : List (Str × Addr)} {Fin : Shared → List Value → Led → Prop}
theorem srcValuesT (hh : A.handled = none) (F : Fr h₀ L s.heap m) (N : News h₀ L s.heap news) (hv : (v, { cls := .type "dict_values", data := .fields #[.ref d] }) ∈ news) (hm : (d, od) ∈ news) (hd : od.IsDictOf (strKind prog w) kvs) (hsz : kvs.length ≤ sizeLine)
    (R : ∀ g, CompRestT prog w A h₀ L m env ct elt x scope cl { s with heap := g } (fun nw => (d, od) ∈ nw) (fun i v => ∃ k, kvs[i]? = some (k, v)) (Fin { s with heap := g }) kvs.length 0 [] news) :
    wpAny (model prog w) A (pyIter (.ref v)) (CompItT prog w A h₀ L m env ct elt x scope cl Fin) E s := by
  refine Classical.byContradiction fun hn9 => ?_
  obtain ⟨ep, ha⟩ := KdkAt.of hd
  refine hn9 ?_
  clear hn9
  have hlt : d < s.heap.objs.size := Heap.lt_size (N _ hm).1
  have up : ∀ o b o', s.heap.get? b = some o' → (s.heap.push o).get? b = some o' := fun o b o' e => Heap.get?_push_of_some _ e
  refine wpAny_pyIter_values (v := v) ⟨_, (N _ hv).1, rfl, rfl⟩ (ha.dictAt (N _ hm).1) ?_
  refine ⟨_, _, _, _, _, _, news, rfl, Walks.dictValues hh s.heap.objs.size d (Nat.ne_of_lt hlt) kvs ep, hsz, (fun i h st => by obtain ⟨o, e, _⟩ := st.1; exact ⟨o, e⟩), val_st ha, ⟨⟨_, Heap.get?_push_size _ rfl, rfl, rfl⟩, ha.dictAt (up _ _ _ (N _ hm).1)⟩, ?_, F.keeps (up _), N.grown (up _), Nat.ne_of_lt F.ns.lt, next_is_new F, (fun p hp => Nat.ne_of_lt (Heap.lt_size (N p hp).1)), hm, R _⟩
  intro b hb
  show b < (s.heap.push _).objs.size
  rw [Heap.size_push]
  rcases List.mem_cons.mp hb with rfl | hb
  · exact Nat.lt_succ_self _
  · rw [List.mem_singleton.mp hb]; exact Nat.lt_succ_of_lt hlt
theorem srcKeysT (hh : A.handled = none) (F : Fr h₀ L s.heap m) (N : News h₀ L s.heap news) (lo : (d == sysModules) = false) (hm : (d, od) ∈ news) (hd : od.IsDictOf (strKind prog w) kvs) (hsz : kvs.length ≤ sizeLine)
    (R : ∀ g, CompRestT prog w A h₀ L m env ct elt x scope cl { s with heap := g } (fun nw => (d, od) ∈ nw) (fun i v => ∃ k u, kvs[i]? = some (k, u) ∧ (strKind prog w).is k v = true) (Fin { s with heap := g }) kvs.length 0 [] news) :
    wpAny (model prog w) A (pyIter (.ref d)) (CompItT prog w A h₀ L m env ct elt x scope cl Fin) E s := by
  refine Classical.byContradiction fun hn9 => ?_
  obtain ⟨ep, ha⟩ := KdkAt.of hd
  refine hn9 ?_
  clear hn9
  have hlt : d < s.heap.objs.size := Heap.lt_size (N _ hm).1
  have up : ∀ o b o', s.heap.get? b = some o' → (s.heap.push o).get? b = some o' := fun o b o' e => Heap.get?_push_of_some _ e
  refine wpAny_pyIter_dict lo (ha.dictAt (N _ hm).1) ?_
  refine ⟨_, _, _, _, _, _, news, rfl, Walks.dictKeys hh s.heap.objs.size d (Nat.ne_of_lt hlt) kvs ep, hsz, (fun i h st => by obtain ⟨o, e, _⟩ := st.1; exact ⟨o, e⟩), key_st ha, ⟨⟨_, Heap.get?_push_size _ rfl, rfl, rfl⟩, ha.dictAt (up _ _ _ (N _ hm).1)⟩, ?_, F.keeps (up _), N.grown (up _), Nat.ne_of_lt F.ns.lt, next_is_new F, (fun p hp => Nat.ne_of_lt (Heap.lt_size (N p hp).1)), hm, R _⟩
  intro b hb
  show b < (s.heap.push _).objs.size
  rw [Heap.size_push]
  rcases List.mem_cons.mp hb with rfl | hb
  · exact Nat.lt_succ_self _
  · rw [List.mem_singleton.mp hb]; exact Nat.lt_succ_of_lt hlt
theorem srcKeysU (hh : A.handled = none) (F : Fr h₀ L s.heap m) (N : News h₀ L s.heap news) (lo : (d == sysModules) = false) (hm : (d, od) ∈ news) (hd : od.IsDictOf (strKind prog w) kvs) (hsz : kvs.length ≤ sizeLine)
    (R : ∀ g, CompRest prog w A h₀ L m env elt x scope cl { s with heap := g } (fun nw => (d, od) ∈ nw) (fun i v => ∃ k u, kvs[i]? = some (k, u) ∧ (strKind prog w).is k v = true) (Fin { s with heap := g }) kvs.length 0 [] news) :
    wpAny (model prog w) A (pyIter (.ref d)) (CompItU prog w A h₀ L m env elt x scope cl Fin) E s := by
  refine Classical.byContradiction fun hn9 => ?_
  obtain ⟨ep, ha⟩ := KdkAt.of hd
  refine hn9 ?_
  clear hn9
  have hlt : d < s.heap.objs.size := Heap.lt_size (N _ hm).1
  have up : ∀ o b o', s.heap.get? b = some o' → (s.heap.push o).get? b = some o' := fun o b o' e => Heap.get?_push_of_some _ e
  refine wpAny_pyIter_dict lo (ha.dictAt (N _ hm).1) ?_
  refine ⟨_, _, _, _, _, _, news, rfl, Walks.dictKeys hh s.heap.objs.size d (Nat.ne_of_lt hlt) kvs ep, hsz, (fun i h st => by obtain ⟨o, e, _⟩ := st.1; exact ⟨o, e⟩), key_st ha, ⟨⟨_, Heap.get?_push_size _ rfl, rfl, rfl⟩, ha.dictAt (up _ _ _ (N _ hm).1)⟩, ?_, F.keeps (up _), N.grown (up _), Nat.ne_of_lt F.ns.lt, next_is_new F, (fun p hp => Nat.ne_of_lt (Heap.lt_size (N p hp).1)), hm, R _⟩
  intro b hb
  show b < (s.heap.push _).objs.size
  rw [Heap.size_push]
  rcases List.mem_cons.mp hb with rfl | hb
  · exact Nat.lt_succ_self _
  · rw [List.mem_singleton.mp hb]; exact Nat.lt_succ_of_lt hlt
theorem callValues {Q : Value → Shared → Prop} (F : Fr h₀ L s.heap m) (N : News h₀ L s.heap news) (hm : (d, od) ∈ news) (hd : od.IsDictOf (strKind prog w) kvs) (lo : (d == sysModules) = false)
    (h : ∀ (V : Addr) h', Fr h₀ L h' m → News h₀ L h' ((V, { cls := .type "dict_values", data := .fields #[.ref d] }) :: news) → (∀ p ∈ news, p.1 < V) → Q (.ref V) { s with heap := h' }) :
    wpAny (model prog w) A (call (.builtin "dict.values") [.ref d]) Q E s := by
  have hD : s.heap.DictOf (strKind prog w) d kvs := Heap.dictOf_iff.mpr ⟨od, (N _ hm).1, hd⟩
  exact call_meetsIn PySem.F.slot_dict_values hD.typeIs PySem.F.entry_dict_values (PySem.F.args_dict_values_1 _) (meets_dict_values (strKind prog w) d lo) ⟨⟨kvs, hD⟩, h _ _ (F.push _) (News.push F N _ rfl) (fun q hq => Heap.lt_size (N q hq).1)⟩
theorem methValues {pl : Sem Bool} {Q : Value × List Value → Shared → Prop} (N : News h₀ L s.heap news) (hm : (d, od) ∈ news) (hd : od.IsDictOf (strKind prog w) kvs) (h : Q (.builtin "dict.values", [.ref d]) s) :
    wpAny (model prog w) A (getMethod (.ref d) (Str.ofString "values") pl) Q E s :=
  have hD := kda_dict N hm hd
  getMethod_builtin hD.typeIs PySem.F.plainAttrs_dict PySem.F.slot_dict_values PySem.F.type_dict_values hD.mapOf.noDict h
noncomputable abbrev StepT (prog : Program) (w : World) (A : Around) (s : Shared) (h₀ : Heap) (L : Addr) (m : Str → Option Value) (env : Env) (ct elt : PySem.Expr) (x : Str) (scope : Scope) (cl : List (Str × Addr)) (S : Led → Prop) (P : Nat → Value → Prop) (n : Nat) (Inv : Nat → List Value → Led → Prop) : Prop :=
  ∀ i v I oI C oC D m₂ h tk (E' : Value → Shared → Prop) ys news, i < n → P i v → Inv i ys news → NsObj oC m₂ → m₂ x = some v → Fr h₀ L h m → News h₀ L h ((I, oI) :: (C, oC) :: (D, LCg.lst ys) :: news) → Off3 I C D news → ((@Ne Nat I C) ∧ (@Ne Nat I D) ∧ (@Ne Nat C D)) →
      wpAny (model prog w) A (isTrue ct (compEnvC scope cl C env) (eval ct (compEnvC scope cl C env))) (fun ok s' => if ok = true then
        wpAny (model prog w) A (eval elt (compEnvC scope cl C env)) (CompEnd h₀ L m { s with heap := h, toks := tk } I oI C oC D (LCg.lst ys) S (fun y news' => Inv (i + 1) (ys ++ [y]) news')) E' s'
        else CompEnd h₀ L m { s with heap := h, toks := tk } I oI C oC D (LCg.lst ys) S (fun _ news' => Inv (i + 1) ys news') Value.none s') E' { s with heap := h, toks := tk }
noncomputable abbrev StepU (prog : Program) (w : World) (A : Around) (s : Shared) (h₀ : Heap) (L : Addr) (m : Str → Option Value) (env : Env) (elt : PySem.Expr) (x : Str) (scope : Scope) (cl : List (Str × Addr)) (S : Led → Prop) (P : Nat → Value → Prop) (n : Nat) (Inv : Nat → List Value → Led → Prop) : Prop :=
  ∀ i v I oI C oC D m₂ h tk (E' : Value → Shared → Prop) ys news, i < n → P i v → Inv i ys news → NsObj oC m₂ → m₂ x = some v → Fr h₀ L h m → News h₀ L h ((I, oI) :: (C, oC) :: (D, LCg.lst ys) :: news) → Off3 I C D news → ((@Ne Nat I C) ∧ (@Ne Nat I D) ∧ (@Ne Nat C D)) →
      wpAny (model prog w) A (eval elt (compEnvC scope cl C env)) (CompEnd h₀ L m { s with heap := h, toks := tk } I oI C oC D (LCg.lst ys) S (fun y news' => Inv (i + 1) (ys ++ [y]) news')) E' { s with heap := h, toks := tk }
theorem srcValuesM (Inv : Led → Nat → List Value → Led → Prop) (hh : A.handled = none) (F : Fr h₀ L s.heap m) (N : News h₀ L s.heap news) (hv : (v, { cls := .type "dict_values", data := .fields #[.ref d] }) ∈ news) (hm : (d, od) ∈ news) (hd : od.IsDictOf (strKind prog w) kvs) (hsz : kvs.length ≤ sizeLine) (h0 : Inv news 0 [] news)
    (step : StepT prog w A s h₀ L m env ct elt x scope cl (fun nw => (d, od) ∈ nw) (fun i v => ∃ k, kvs[i]? = some (k, v)) kvs.length (Inv news)) (fin : ∀ g ys nw, Inv news kvs.length ys nw → Fin { s with heap := g } ys nw) :
    wpAny (model prog w) A (pyIter (.ref v)) (CompItT prog w A h₀ L m env ct elt x scope cl Fin) E s :=
  srcValuesT hh F N hv hm hd hsz fun g => restT (s := { s with heap := g }) (Inv news) step (fin g) kvs.length 0 [] news (Nat.zero_add _) h0
theorem srcKeysTM (Inv : Led → Nat → List Value → Led → Prop) (hh : A.handled = none) (F : Fr h₀ L s.heap m) (N : News h₀ L s.heap news) (lo : (d == sysModules) = false) (hm : (d, od) ∈ news) (hd : od.IsDictOf (strKind prog w) kvs) (hsz : kvs.length ≤ sizeLine) (h0 : Inv news 0 [] news)
    (step : StepT prog w A s h₀ L m env ct elt x scope cl (fun nw => (d, od) ∈ nw) (fun i v => ∃ k u, kvs[i]? = some (k, u) ∧ (strKind prog w).is k v = true) kvs.length (Inv news)) (fin : ∀ g ys nw, Inv news kvs.length ys nw → Fin { s with heap := g } ys nw) :
    wpAny (model prog w) A (pyIter (.ref d)) (CompItT prog w A h₀ L m env ct elt x scope cl Fin) E s :=
  srcKeysT hh F N lo hm hd hsz fun g => restT (s := { s with heap := g }) (Inv news) step (fin g) kvs.length 0 [] news (Nat.zero_add _) h0
theorem srcKeysUM (Inv : Led → Nat → List Value → Led → Prop) (hh : A.handled = none) (F : Fr h₀ L s.heap m) (N : News h₀ L s.heap news) (lo : (d == sysModules) = false) (hm : (d, od) ∈ news) (hd : od.IsDictOf (strKind prog w) kvs) (hsz : kvs.length ≤ sizeLine) (h0 : Inv news 0 [] news)
    (step : StepU prog w A s h₀ L m env elt x scope cl (fun nw => (d, od) ∈ nw) (fun i v => ∃ k u, kvs[i]? = some (k, u) ∧ (strKind prog w).is k v = true) kvs.length (Inv news)) (fin : ∀ g ys nw, Inv news kvs.length ys nw → Fin { s with heap := g } ys nw) :
    wpAny (model prog w) A (pyIter (.ref d)) (CompItU prog w A h₀ L m env elt x scope cl Fin) E s :=
  srcKeysU hh F N lo hm hd hsz fun g => restU (s := { s with heap := g }) (Inv news) step (fin g) kvs.length 0 [] news (Nat.zero_add _) h0
theorem off1_mem {D : Addr} : ∀ {l : Led}, Off1 D l → ∀ p ∈ l, p.1 ≠ D
  | [], _, _, h => nomatch h
  | _ :: _, x, p, h => by
    rcases List.mem_cons.mp h with rfl | h
    · exact x.1
    · exact off1_mem x.2 p h
end
end Mine
-- Mw2
open PySem PySem.W PySem.Calls PyProof.Rows
namespace Mine

namespace Mw
section
variable {prog : Program} {w : World} {A : Around} {E : Value → Shared → Prop} {s : Shared} {h₀ : Heap} {L : Addr} {m : Str → Option Value} {news news' : Led} {a wa it l : Addr} {i : Nat} {vs : Array Value}
theorem getattr_next {Q : Value → Shared → Prop} (hx : s.heap.get? a = some { cls := .type "list_iterator", data := .fields vs }) (hq : Q (.ref s.heap.objs.size) { s with heap := s.heap.push (mwO a), toks := s.toks + 1 }) :
    wpAny (model prog w) A (getAttr (.ref a) (Str.ofString "__next__") true) Q E s := by
  refine Classical.byContradiction fun hn9 => ?_
  obtain ⟨hp, g, d, tk, os⟩ := s
  refine hn9 ?_
  clear hn9
  have hT : ∀ tk, (⟨hp, g, d, tk, os⟩ : Shared).TypeIs (.ref a) "list_iterator" := fun _ => ⟨_, hx, rfl⟩
  have f3 := slot_ga.lookup
  have f4 := slot_ga.bind (.ref a)
  unfold getAttr getAttrBy
  repeat (any_goals (first | assumption | exact hT _ | ((with_reducible show wpAny _ _ (call (Value.builtin "object.__getattribute__") _ _) _ _ _); refine wpAny_call (codeAny_call_builtin slot_ga.plain F.entry_object_getattribute (slot_ga.check _ _ _ _ _ _ _ _ (hT _) (F.args_object_getattribute_2 _ _) (ga_entry hx ?_)))) | wp_step))
theorem callmw {R : Value → Shared → Prop} (hw : s.heap.get? wa = some (mwO it)) (h : ∀ A', A'.handled = A.handled → wpAny (model prog w) A' (Builtin.«list_iterator.__next__» ⟨[.ref it], []⟩) (fun fin s' => ∃ v, fin = .done (.ret v) ∧ R v s') E s) :
    wpAny (model prog w) A (call (.ref wa) []) R E s := by
  refine wpAny_call (codeAny_of_tree ?_)
  show wpAny _ _ (callAny (.ref wa) ⟨[], []⟩) _ _ _
  simp only [callAny]
  refine wpAny_bind (wpAny_load hw ?_)
  dsimp only
  rw [if_pos (by decide)]
  show wpAny _ _ (if (Value.type "method-wrapper" != Value.type "method") = true then _ else _) _ _ _
  rw [if_pos (by decide)]
  refine wpAny_bind (wpAny_of_eq (a := ()) bound_ok ?_)
  refine wpAny_pure ⟨Code.quiet_builtin _ (by decide +kernel), codeAny_builtin entry_listiter_next (wpAny_mono (h _ ?_) (fun fin s' h' => ?_) fun _ _ h' => h')⟩
  · rfl
  · obtain ⟨v, rfl, hv⟩ := h'; exact hv
theorem next_item {items : Array Value} {x : Value} {R : Value → Shared → Prop} (ho : s.heap.get? it = some (liO l i)) (hl : s.heap.IsList l items) (hx : items[i]? = some x)
    (h : ∀ h', h'.get? it = some (liO l (i + 1)) → Heap.SameBut it s.heap h' → R x { s with heap := h' }) :
    wpAny (model prog w) A (Builtin.«list_iterator.__next__» ⟨[.ref it], []⟩) (fun fin s' => ∃ v, fin = .done (.ret v) ∧ R v s') E s := by
  refine Classical.byContradiction fun hn9 => ?_
  obtain ⟨ol, hol, _, nl, hdl⟩ := hl
  refine hn9 ?_
  clear hn9
  show wpAny _ _ (field (.ref it) 0 >>= _) _ _ s
  refine wpAny_bind (wpAny_field ho rfl (x := .ref l) rfl ?_)
  show wpAny _ _ (if (Value.ref l == Value.none) = true then _ else _) _ _ s
  rw [if_neg (show ¬ ((Value.ref l == Value.none) = true) from Bool.false_ne_true)]
  show wpAny _ _ (field (.ref it) 1 >>= _) _ _ s
  refine wpAny_bind (wpAny_field ho rfl (x := .int i 0) rfl ?_)
  show wpAny _ _ (seqItems? (.ref l) >>= _) _ _ s
  refine wpAny_bind (wpAny_seqItems hol hdl ?_)
  simp only [Int.toNat_natCast, hx]
  refine wpAny_bind (wpAny_setField ho rfl (by simp) (wpAny_pure ⟨x, rfl, h _ ?_ (Heap.SameBut.update ..)⟩))
  rw [Heap.get?_update_self _ ho (Obj.isFreed_of_fields rfl)]
  rfl
theorem next_end {items : Array Value} {Q : PySem.Fin → Shared → Prop} (hh : A.handled = none) (ho : s.heap.get? it = some (liO l i)) (hl : s.heap.IsList l items) (hx : items[i]? = none)
    (h : ∀ h₁ h' e, Heap.SameBut it s.heap h₁ → Heap.NewExc h₁ h' e "StopIteration" → E (.ref e) { s with heap := h' }) :
    wpAny (model prog w) A (Builtin.«list_iterator.__next__» ⟨[.ref it], []⟩) Q E s := by
  refine Classical.byContradiction fun hn9 => ?_
  obtain ⟨ol, hol, _, nl, hdl⟩ := hl
  refine hn9 ?_
  clear hn9
  show wpAny _ _ (field (.ref it) 0 >>= _) _ _ s
  refine wpAny_bind (wpAny_field ho rfl (x := .ref l) rfl ?_)
  show wpAny _ _ (if (Value.ref l == Value.none) = true then _ else _) _ _ s
  rw [if_neg (show ¬ ((Value.ref l == Value.none) = true) from Bool.false_ne_true)]
  show wpAny _ _ (field (.ref it) 1 >>= _) _ _ s
  refine wpAny_bind (wpAny_field ho rfl (x := .int i 0) rfl ?_)
  show wpAny _ _ (seqItems? (.ref l) >>= _) _ _ s
  refine wpAny_bind (wpAny_seqItems hol hdl ?_)
  simp only [Int.toNat_natCast, hx]
  refine wpAny_bind (wpAny_rule (wpAny_bind (wpAny_setField ho rfl (by simp) ?_)))
  show wpAny _ _ (newExc (.type "StopIteration") [] >>= _) _ _ _
  refine wpAny_bind ?_
  simp only [newExc, newTuple]
  refine wpAny_bind (wpAny_newObj_type ?_ (by size_fits))
  refine wpAny_bind (m := firstArgMember _ _) (wpAny_of_eq (a := Value.none) (by first | rfl | (simp only [firstArgMember]; rfl)) ?_)
  refine wpAny_newObj_type ?_ (by size_fits)
  simp only [raiseNew]
  refine wpAny_bind (wpAny_handled ?_)
  rw [show A.handled = none from hh]
  refine wpAny_bind (wpAny_pure (wpAny_throw ?_))
  refine h _ _ _ (Heap.SameBut.update ..) ⟨fun b o hb => Heap.get?_push_of_some _ (Heap.get?_push_of_some _ hb), ?_, _, _, Heap.get?_push_size _ rfl, rfl, rfl⟩
  exact Heap.get?_none_of_le (by rw [Heap.size_push]; omega)
theorem mw_attr {Q : Value → Shared → Prop} (F : Fr h₀ L s.heap m) (N : News h₀ L s.heap news) (hp : (it, liO l i) ∈ news)
    (h : ∀ W h' tk, Fr h₀ L h' m → News h₀ L h' ((W, mwO it) :: news) → (∀ p ∈ news, p.1 < W) → Q (.ref W) { s with heap := h', toks := tk }) :
    wpAny (model prog w) A (getAttr (.ref it) (Str.ofString "__next__") true) Q E s :=
  getattr_next (N _ hp).1 (h _ _ _ (F.push _) (News.push F N _ rfl) (fun q hq => Heap.lt_size (N q hq).1))
theorem iter_list {vs : Array Value} {c : Nat} {Q : Value → Shared → Prop} (F : Fr h₀ L s.heap m) (N : News h₀ L s.heap news) (hp : (l, W.listOf vs c) ∈ news)
    (h : ∀ (I : Addr) h', Fr h₀ L h' m → News h₀ L h' ((I, liO l 0) :: news) → (∀ p ∈ news, p.1 < I) → Q (.ref I) { s with heap := h' }) :
    wpAny (model prog w) A (call (.builtin "iter") [.ref l]) Q E s := by
  refine call_function_entry (by decide +kernel) (by decide +kernel) kdk_entry_iter (kdk_args_iter _) ?_
  unfold Builtin.«iter»
  refine wpAny_bind (m := someArgs "iter" 1 2 _) (wpAny_of_eq (a := [Value.ref l]) (by first | rfl | kernel_rfl!) ?_)
  show wpAny _ _ (pyIter (.ref l) >>= _) _ _ _
  refine wpAny_bind (wpAny_pyIter_list ⟨_, (N _ hp).1, rfl, _, rfl⟩ ?_)
  exact wpAny_pure ⟨_, rfl, h _ _ (F.push _) (News.push F N _ rfl) (fun q hq => Heap.lt_size (N q hq).1)⟩
theorem mw_item {vs : Array Value} {c : Nat} {x : Value} {Q : Value → Shared → Prop} (F : Fr h₀ L s.heap m) (N : News h₀ L s.heap news) (hw : (wa, mwO it) ∈ news) (hl : (l, W.listOf vs c) ∈ news)
    (U : Upd it (liO l i) (liO l (i + 1)) news news') (hx : vs[i]? = some x) (h : ∀ h', Fr h₀ L h' m → News h₀ L h' news' → Q x { s with heap := h' }) :
    wpAny (model prog w) A (call (.ref wa) []) Q E s := by
  refine Classical.byContradiction fun hn9 => ?_
  obtain ⟨pre, post, rfl, rfl, a, b⟩ := U.split
  refine hn9 ?_
  clear hn9
  have z := N (it, liO l i) (List.mem_append.mpr (.inr (.head _)))
  refine callmw (N _ hw).1 fun A' _ => next_item z.1 ⟨_, (N _ hl).1, rfl, _, rfl⟩ hx fun h' ho' hs => h h' (F.change hs z.2.1 z.2.2) (news_set N a b hs ho')
theorem mw_end {vs : Array Value} {c : Nat} {Q : Value → Shared → Prop} (hh : A.handled = none) (F : Fr h₀ L s.heap m) (N : News h₀ L s.heap news) (hw : (wa, mwO it) ∈ news) (hl : (l, W.listOf vs c) ∈ news)
    (hi : (it, liO l i) ∈ news) (hx : vs[i]? = none) (hsub : ∀ p ∈ news', p ∈ news ∧ p.1 ≠ it)
    (h : ∀ h₁ h' e, Fr h₀ L h₁ m → News h₀ L h₁ news' → Heap.NewExc h₁ h' e "StopIteration" → E (.ref e) { s with heap := h' }) :
    wpAny (model prog w) A (call (.ref wa) []) Q E s := by
  have z := N _ hi
  refine callmw (N _ hw).1 fun A' hA => next_end (hA.trans hh) z.1 ⟨_, (N _ hl).1, rfl, _, rfl⟩ hx fun h₁ h' e hs hx => h h₁ h' e (F.change hs z.2.1 z.2.2) (fun p hp => ?_) hx
  refine Classical.byContradiction fun hn9 => ?_
  obtain ⟨h1, h2⟩ := hsub p hp
  refine hn9 ?_
  clear hn9
  refine Classical.byContradiction fun hn9 => ?_
  obtain ⟨a, b, c⟩ := N p h1
  refine hn9 ?_
  clear hn9
  exact ⟨(hs.2 _ h2).trans a, b, c⟩
end
end Mw
end Mine
-- Fc0
open PySem PySem.W PySem.Calls PyProof.Rows
namespace Mine

section
variable {prog : Program} {w : World} {A : Around} {E : Value → Shared → Prop} {s : Shared} {h₀ : Heap} {L d : Addr} {m : Str → Option Value} {news : Led} {g : Obj → Led} {o : Obj}
theorem delK {kvs : List (Str × Value)} {k : Str} {t : Tok} {Q : Unit → Shared → Prop} (F : Fr h₀ L s.heap m) (N : News h₀ L s.heap news) (U : UpdF d o news g) (hd : o.IsDictOf (strKind prog w) kvs) (hl : (valueAt kvs k).isSome = true) (hsz : kvs.length ≤ sizeLine)
    (h : ∀ h' o', Fr h₀ L h' m → News h₀ L h' (g o') → o'.IsDictOf (strKind prog w) (without kvs k) → Q () { s with heap := h', toks := s.toks + 1 }) :
    wpAny (model prog w) A (delItem (.ref d) (.str k t)) Q E s := by
  refine Classical.byContradiction fun hn9 => ?_
  obtain ⟨pre, post, rfl, hg, a, b⟩ := U.split
  refine hn9 ?_
  clear hn9
  have hm := N (d, o) (List.mem_append_right _ (.head _))
  have hD : s.heap.DictOf (strKind prog w) d kvs := Heap.dictOf_iff.mpr ⟨o, hm.1, hd⟩
  unfold delItem
  try with_reducible refine wpAny_holding ?_
  refine wpAny_bind (wpAny_sequenceKey hD.typeIs (by decide) ?_)
  refine wpAny_bind (wpAny_callSpecial?_slot (name := Str.ofString "__delitem__") hD.typeIs PySem.F.slot_dict_delitem
    (call_meetsIn PySem.F.slot_dict_delitem hD.typeIs PySem.F.entry_dict_delitem (PySem.F.args_dict_delitem_2 _ _) (meets_dict_delitem_pairs (strKind prog w) d (strKind_is _ _ _ _)) ⟨kvs, hD, hsz, hl, fun h' hmm hs => ?_⟩))
  refine Classical.byContradiction fun hn9 => ?_
  obtain ⟨o', ho', hd'⟩ := Heap.dictOf_iff.mp hmm
  refine hn9 ?_
  clear hn9
  exact wpAny_pure (h h' o' (F.change hs hm.2.1 hm.2.2) (hg o' ▸ N.setIn a b hs ho') hd')
theorem mwItem {wa it l : Addr} {i : Nat} {vs : List Value} {c : Nat} {x : Value} {news' : Led} {Q : Value → Shared → Prop} (F : Fr h₀ L s.heap m) (N : News h₀ L s.heap news) (hw : (wa, Mw.mwO it) ∈ news) (U : Upd it (Mw.liO l i) (Mw.liO l (i + 1)) news news')
    (hl : (l, W.listOf vs.toArray c) ∈ news) (hx : vs[i]? = some x) (h : ∀ h', Fr h₀ L h' m → News h₀ L h' news' → Q x { s with heap := h' }) : wpAny (model prog w) A (call (.ref wa) []) Q E s :=
  Mw.mw_item F N hw hl U (by simpa using hx) h
theorem mwEnd {wa it l : Addr} {i : Nat} {vs : List Value} {c : Nat} {news' : Led} {Q : Value → Shared → Prop} (hh : A.handled = none) (F : Fr h₀ L s.heap m) (N : News h₀ L s.heap news) (hw : (wa, Mw.mwO it) ∈ news) (hi : (it, Mw.liO l i) ∈ news) (hl : (l, W.listOf vs.toArray c) ∈ news) (hx : vs[i]? = none)
    (hsub : ∀ p ∈ news', p ∈ news ∧ p.1 ≠ it) (h : ∀ h₁ h' e, Fr h₀ L h₁ m → News h₀ L h₁ news' → Heap.NewExc h₁ h' e "StopIteration" → E (.ref e) { s with heap := h' }) : wpAny (model prog w) A (call (.ref wa) []) Q E s :=
  Mw.mw_end hh F N hw hl hi (by simpa using hx) hsub h
theorem callWithMw {wa it : Addr} {env : Env} {pos pos' : Pos} {Q : Value → Shared → Prop} (N : News h₀ L s.heap news) (hw : (wa, Mw.mwO it) ∈ news) (h : wpAny (model prog w) A (call (.ref wa) []) Q E s) :
    wpAny (model prog w) A (callWith pos (.ref wa) [] (backTo pos' (starEach [] env)) []) Q E s := by
  unfold callWith
  refine wpAny_bind (wpAny_holding (wpAny_mono (evalArgs_nil3 (Q := fun a s₁ => a = ⟨[], []⟩ ∧ s₁ = s) ⟨rfl, rfl⟩) (fun a s₁ h₁ => wpAny_bind (wpAny_standAt ?_)) fun _ _ x => x))
  refine Classical.byContradiction fun hn9 => ?_
  obtain ⟨rfl, rfl⟩ := h₁
  refine hn9 ?_
  clear hn9
  refine wpAny_bind (m := keeperOf (.ref wa)) ?_
  unfold keeperOf
  refine wpAny_bind (wpAny_load (N _ hw).1 ?_)
  refine wpAny_pure ?_
  show wpAny _ _ (call (.ref wa) [] >>= _) _ _ _
  refine wpAny_bind ?_
  exact wpAny_mono h (fun r s₂ hr => wpAny_bind (wpAny_holding (wpAny_point (wpAny_pure hr)))) fun _ _ x => x
theorem addK {D1 D2 : Addr} {its its2 : Array Value} {c1 c2 : Nat} {Q : Value → Shared → Prop} (F : Fr h₀ L s.heap m) (N : News h₀ L s.heap news) (h1 : (D1, W.listOf its c1) ∈ news) (h2 : (D2, W.listOf its2 c2) ∈ news) (hz : its.size + its2.size ≤ sizeLine)
    (h : ∀ (D : Addr) h', Fr h₀ L h' m → News h₀ L h' ((D, W.listOf (its.toList ++ its2.toList).toArray 0) :: news) → (∀ p ∈ news, p.1 < D) → Q (.ref D) { s with heap := h' }) :
    wpAny (model prog w) A (binaryOp .Add (.ref D1) (.ref D2)) Q E s :=
  add_arrays (hsz := hz) F N ⟨_, (N _ h1).1, rfl, _, rfl⟩ ⟨_, (N _ h2).1, rfl, _, rfl⟩ fun h' F' N' => h _ h' F' N' (fun p hp => Heap.lt_size (N p hp).1)
theorem addz {items : Array Value} {lo hi : Option Int} {v : Value} (h : items.size ≤ 4096) : (slicePick items lo hi none).size + (#[v] : Array Value).size ≤ sizeLine := by
  have := slicePick_size_le items lo hi none
  rw [sizeLine_eq]
  simp only [List.size_toArray, List.length_cons, List.length_nil]
  omega
theorem lenL {D : Addr} {vs : List Value} {n k : Nat} {Q : Value → Shared → Prop} (N : News h₀ L s.heap news) (hp : (D, W.listOf vs.toArray n) ∈ news) (he : vs.length = k) (hz : k ≤ 100000) (h : Q (.int k (s.toks + 1)) { s with toks := s.toks + 1 + 1 }) :
    wpAny (model prog w) A (call (.builtin "len") [.ref D]) Q E s := by
  refine len_list (items := vs.toArray) ⟨_, (N _ hp).1, rfl, _, rfl⟩ ?_ ?_
  · simp only [List.size_toArray]; omega
  · simpa only [List.size_toArray, he] using h
/-- a while with an else: the word J over the whole ledger, the measure falls -/
theorem While_els {env : Env} {test : PySem.Expr} {body orelse : List Stmt} {pos : Pos} {Q : Flow → Shared → Prop} (J : Nat → (Str → Option Value) → Led → Prop) {n₀ : Nat}
    (F : Fr h₀ L s.heap m) (N : News h₀ L s.heap news) (hJ : J n₀ m news)
    (turn : ∀ n m₁ news₁ h₁ tk₁, Fr h₀ L h₁ m₁ → News h₀ L h₁ news₁ → J n m₁ news₁ →
      wpAny (model prog w) A (isTrue test env (eval test env)) (fun b s₂ =>
        if b = true then wpAny (model prog w) A (execs body env) (WhileStep2 h₀ L s J Q n) E s₂ else wpAny (model prog w) A (execs orelse env) Q E s₂) E { s with heap := h₁, toks := tk₁ })
    (hE : PassesOwn (model prog w) A env E := by passes_own) :
    wpAny (model prog w) A (exec (.While test body orelse pos) env) Q E s := by
  refine wpAny_While (codeAny_whileLoop (fun n s' => ∃ h₁ tk₁ m₁ news₁, s' = { s with heap := h₁, toks := tk₁ } ∧ Fr h₀ L h₁ m₁ ∧ News h₀ L h₁ news₁ ∧ J n m₁ news₁) ?_ n₀ ⟨s.heap, s.toks, m, news, rfl, F, N, hJ⟩)
  intro n s' hp92
  refine Classical.byContradiction fun hn9 => ?_
  obtain ⟨h₁, tk₁, m₁, news₁, rfl, F₁, N₁, J₁⟩ := hp92
  refine hn9 ?_
  clear hn9
  refine wpAny_mono (turn n m₁ news₁ h₁ tk₁ F₁ N₁ J₁) (fun b s₂ h₂ => ?_) hE
  cases b with
  | false =>
    simp only [Bool.false_eq_true, if_false] at h₂ ⊢
    exact wpAny_mono h₂ (fun f s₃ h₃ => h₃) hE
  | true =>
    simp only [if_true] at h₂ ⊢
    refine wpAny_mono h₂ (fun f s₃ h₃ => ?_) hE
    cases f with
    | next =>
      refine Classical.byContradiction fun hn9 => ?_
      obtain ⟨h', tk, m₂, news₂, n', rfl, F₂, N₂, hn, J₂⟩ := h₃
      refine hn9 ?_
      clear hn9
      exact ⟨n', hn, h', tk, m₂, news₂, rfl, F₂, N₂, J₂⟩
    | cont =>
      refine Classical.byContradiction fun hn9 => ?_
      obtain ⟨h', tk, m₂, news₂, n', rfl, F₂, N₂, hn, J₂⟩ := h₃
      refine hn9 ?_
      clear hn9
      exact ⟨n', hn, h', tk, m₂, news₂, rfl, F₂, N₂, J₂⟩
    | brk => exact h₃
    | ret v => exact h₃
end
theorem While_M {prog : Program} {w : World} {A : Around} {E : Value → Shared → Prop} {s : Shared} {h₀ : Heap} {L : Addr} {news : Led} {env : Env} {test : PySem.Expr} {body orelse : List Stmt} {pos : Pos} {Q : Flow → Shared → Prop} {x : Str} {u : Option Value} {m₀ : Str → Option Value}
    (Jm : (Str → Option Value) → Nat → (Str → Option Value) → Led → Prop) (n₀ : Nat) (F : Fr h₀ L s.heap (fun y => if y = x then u else m₀ y)) (N : News h₀ L s.heap news) (hJ : Jm m₀ n₀ (fun y => if y = x then u else m₀ y) news)
    (turn : ∀ n m₁ news₁ h₁ tk₁, Fr h₀ L h₁ m₁ → News h₀ L h₁ news₁ → Jm m₀ n m₁ news₁ →
      wpAny (model prog w) A (isTrue test env (eval test env)) (fun b s₂ =>
        if b = true then wpAny (model prog w) A (execs body env) (WhileStep2 h₀ L s (Jm m₀) Q n) E s₂ else wpAny (model prog w) A (execs orelse env) Q E s₂) E { s with heap := h₁, toks := tk₁ })
    (hE : PassesOwn (model prog w) A env E := by passes_own) :
    wpAny (model prog w) A (exec (.While test body orelse pos) env) Q E s := While_els (Jm m₀) F N hJ turn hE
theorem step2_next {h₀ h' : Heap} {L : Addr} {s : Shared} {J : Nat → (Str → Option Value) → Led → Prop} {Q : Flow → Shared → Prop} {n n' tk : Nat} {m₂ : Str → Option Value} {news₂ : Led} {f : Flow} (hf : f = .next ∨ f = .cont)
    (F : Fr h₀ L h' m₂) (N : News h₀ L h' news₂) (hn : n' < n) (hJ : J n' m₂ news₂) : WhileStep2 h₀ L s J Q n f { s with heap := h', toks := tk } := by
  rcases hf with rfl | rfl <;> exact ⟨h', tk, m₂, news₂, n', rfl, F, N, hn, hJ⟩
theorem cutM {M : Model} {A : Around} {E : Value → Shared → Prop} {s : Shared} {h₀ : Heap} {L : Addr} {t : Sem Flow} {Q : Flow → Shared → Prop} {x : Str} {u : Option Value} {m₀ : Str → Option Value} (F : Fr h₀ L s.heap (fun y => if y = x then u else m₀ y))
    (Mid : (Str → Option Value) → Heap → Addr → Flow → Shared → Prop) (h1 : wpAny M A t (Mid m₀ h₀ L) E s) (h2 : ∀ f s', Mid m₀ h₀ L f s' → Q f s') : wpAny M A t Q E s := wpAny_mono h1 h2 fun _ _ e => e
theorem Try_cut {prog : Program} {w : World} {A : Around} {E : Value → Shared → Prop} {s : Shared} {env : Env} {body orelse : List Stmt} {e₀ : ExceptHandler} {hs : List ExceptHandler} {pos : Pos} {Q : Flow → Shared → Prop} (MidQ : Flow → Shared → Prop) (MidE : Value → Shared → Prop)
    (h1 : wpAny (model prog w) A (execs body env) MidQ MidE s) (h2 : ∀ f s₁, MidQ f s₁ → match f with | .next => wpAny (model prog w) A (execs orelse env) Q E s₁ | f => Q f s₁)
    (h3 : ∀ e s₁, MidE e s₁ → wpAny (model prog w) A (noteFrame e env) (fun _ s₂ => wpAny (model prog w) A (setFlight e none) (fun _ s₃ => wpAny (model prog w) A (handleBy e env (e₀ :: hs)) Q E s₃) E s₂) E s₁) :
    wpAny (model prog w) A (exec (.Try body (e₀ :: hs) orelse [] pos) env) Q E s := wpAny_Try_except (wpAny_mono h1 h2 h3)
theorem tryM {prog : Program} {w : World} {A : Around} {E : Value → Shared → Prop} {s : Shared} {h₀ : Heap} {L : Addr} {env : Env} {body orelse : List Stmt} {e₀ : ExceptHandler} {hs : List ExceptHandler} {pos : Pos} {Q : Flow → Shared → Prop} {x : Str} {u : Option Value} {m₀ : Str → Option Value} (F : Fr h₀ L s.heap (fun y => if y = x then u else m₀ y))
    (MidQ : (Str → Option Value) → Heap → Addr → Flow → Shared → Prop) (MidE : (Str → Option Value) → Heap → Addr → Value → Shared → Prop)
    (h1 : wpAny (model prog w) A (execs body env) (MidQ m₀ h₀ L) (MidE m₀ h₀ L) s) (h2 : ∀ f s₁, MidQ m₀ h₀ L f s₁ → match f with | .next => wpAny (model prog w) A (execs orelse env) Q E s₁ | f => Q f s₁)
    (h3 : ∀ e s₁, MidE m₀ h₀ L e s₁ → wpAny (model prog w) A (noteFrame e env) (fun _ s₂ => wpAny (model prog w) A (setFlight e none) (fun _ s₃ => wpAny (model prog w) A (handleBy e env (e₀ :: hs)) Q E s₃) E s₂) E s₁) :
    wpAny (model prog w) A (exec (.Try body (e₀ :: hs) orelse [] pos) env) Q E s := Try_cut (MidQ m₀ h₀ L) (MidE m₀ h₀ L) h1 h2 h3
inductive Stop : Nat → Prop
  | mk (n : Nat) : Stop n
/-- the addresses of l differ, and from those of T -/
noncomputable def NDx (T : Led) : Led → Prop
  | [] => True
  | p :: l => (∀ q ∈ l ++ T, q.1 ≠ p.1) ∧ NDx T l
theorem ndx_keysT {T T' : Led} (e : T'.map (·.1) = T.map (·.1)) : ∀ {l : Led}, NDx T l → NDx T' l := by
  intro l
  induction l with
  | nil => exact fun h => h
  | cons p l ih =>
    intro hp90
    refine Classical.byContradiction fun hn9 => ?_
    obtain ⟨h1, h2⟩ := hp90
    refine hn9 ?_
    clear hn9
    refine ⟨fun q hq => ?_, ih h2⟩
    rcases List.mem_append.mp hq with hq | hq
    · exact h1 q (List.mem_append_left _ hq)
    · have : q.1 ∈ T.map (·.1) := by rw [← e]; exact List.mem_map_of_mem hq
      refine Classical.byContradiction fun hn9 => ?_
      obtain ⟨q', hq', e'⟩ := List.mem_map.mp this
      refine hn9 ?_
      clear hn9
      rw [← e']
      exact h1 q' (List.mem_append_right _ hq')
theorem ndx_keys {T : Led} : ∀ {l l' : Led}, l'.map (·.1) = l.map (·.1) → NDx T l → NDx T l' := by
  intro l
  induction l with
  | nil => intro l' e _; cases l' <;> simp_all [NDx]
  | cons p l ih =>
    intro l' e h
    cases l' with
    | nil => cases e
    | cons p' l' =>
      simp only [List.map_cons, List.cons.injEq] at e
      refine ⟨fun q hq => ?_, ih e.2 h.2⟩
      rw [e.1]
      rcases List.mem_append.mp hq with hq | hq
      · have : q.1 ∈ l.map (·.1) := by rw [← e.2]; exact List.mem_map_of_mem hq
        refine Classical.byContradiction fun hn9 => ?_
        obtain ⟨q', hq', e'⟩ := List.mem_map.mp this
        refine hn9 ?_
        clear hn9
        rw [← e']
        exact h.1 q' (List.mem_append_left _ hq')
      · exact h.1 q (List.mem_append_right _ hq)
theorem ndx_iff {T l : Led} : NDx T l ↔ (l.map (·.1)).Nodup ∧ ∀ p ∈ l, ∀ q ∈ T, q.1 ≠ p.1 := by
  induction l with
  | nil => simp [NDx]
  | cons p l ih =>
    unfold NDx
    rw [ih]
    constructor
    · intro hp90
      refine Classical.byContradiction fun hn9 => ?_
      obtain ⟨h1, h2, h3⟩ := hp90
      refine hn9 ?_
      clear hn9
      refine ⟨?_, ?_⟩
      · rw [List.map_cons, List.nodup_cons]
        refine ⟨fun hm => ?_, h2⟩
        refine Classical.byContradiction fun hn9 => ?_
        obtain ⟨q, hq, e⟩ := List.mem_map.mp hm
        refine hn9 ?_
        clear hn9
        exact h1 q (List.mem_append_left _ hq) e
      · intro p' hp' q hq
        rcases List.mem_cons.mp hp' with rfl | hp'
        · exact h1 q (List.mem_append_right _ hq)
        · exact h3 p' hp' q hq
    · intro hp90
      refine Classical.byContradiction fun hn9 => ?_
      obtain ⟨h1, h2⟩ := hp90
      refine hn9 ?_
      clear hn9
      rw [List.map_cons, List.nodup_cons] at h1
      refine ⟨fun q hq e => ?_, h1.2, fun p' hp' => h2 p' (.tail _ hp')⟩
      rcases List.mem_append.mp hq with hq | hq
      · exact h1.1 (by rw [← e]; exact List.mem_map_of_mem hq)
      · exact h2 p (.head _) q hq e
theorem ndx_perm {T l l' : Led} (h : NDx T l) (p : l.Perm l') : NDx T l' := by
  rw [ndx_iff] at h ⊢
  exact ⟨(List.Perm.nodup_iff (p.map (fun q : Addr × Obj => q.1))).mp h.1, fun q hq => h.2 q (p.symm.subset hq)⟩
theorem ndx_sub {T l l' : Led} (h : NDx T l) (p : l'.Sublist l) : NDx T l' := by
  rw [ndx_iff] at h ⊢
  exact ⟨h.1.sublist (p.map _), fun q hq => h.2 q (p.subset hq)⟩
theorem ndx_fresh {T l : Led} {a : Addr} {o : Obj} (h : NDx T l) (hlt : ∀ q ∈ l ++ T, q.1 < a) : NDx T ((a, o) :: l) := ⟨fun q hq => Nat.ne_of_lt (hlt q hq), h⟩
structure Ent where
  i : Info
  wa : Addr
  ia : Addr
  pos : Nat
  tn : Tok
  kt : Tok
noncomputable def Ent.objs (e : Ent) : Led := [(e.wa, Mw.mwO e.ia), (e.ia, Mw.liO e.i.sl e.pos)]
noncomputable def entObjs : List Ent → Led
  | [] => []
  | e :: r => (e.wa, Mw.mwO e.ia) :: (e.ia, Mw.liO e.i.sl e.pos) :: entObjs r
noncomputable def itVals : List Ent → List Value
  | [] => []
  | e :: r => itVals r ++ [.ref e.wa]
noncomputable def stVals : List Ent → List Value
  | [] => []
  | e :: r => stVals r ++ [.str e.i.name e.tn]
noncomputable def n2kv : List Ent → List (Str × Value)
  | [] => []
  | e :: r => n2kv r ++ [(e.i.name, .int r.length e.kt)]
noncomputable def stkOf (l : List Ent) : List (Str × Nat) := l.map fun e => (e.i.name, e.pos)
theorem itVals_len (l : List Ent) : (itVals l).length = l.length := by induction l with | nil => rfl | cons e r ih => simp [itVals, ih]
theorem stVals_len (l : List Ent) : (stVals l).length = l.length := by induction l with | nil => rfl | cons e r ih => simp [stVals, ih]
theorem n2kv_len (l : List Ent) : (n2kv l).length = l.length := by induction l with | nil => rfl | cons e r ih => simp [n2kv, ih]
theorem n2kv_keys (l : List Ent) : (n2kv l).map (·.1) = ((stkOf l).map (·.1)).reverse := by
  induction l with
  | nil => rfl
  | cons e r ih => simp [n2kv, stkOf] at ih ⊢; rw [ih]
theorem valueAt_some_iff {kvs : List (Str × Value)} {k : Str} : (valueAt kvs k).isSome = true ↔ k ∈ kvs.map (·.1) := by
  unfold valueAt
  rw [Option.isSome_map, List.find?_isSome]
  constructor
  · rintro ⟨p, hp, e⟩; exact List.mem_map.mpr ⟨p, hp, by simpa using e⟩
  · intro h
    refine Classical.byContradiction fun hn9 => ?_
    obtain ⟨p, hp, e⟩ := List.mem_map.mp h
    refine hn9 ?_
    clear hn9
    exact ⟨p, hp, by simpa using e⟩
theorem valueAt_mem {kvs : List (Str × Value)} {k : Str} {v : Value} (h : valueAt kvs k = some v) : (k, v) ∈ kvs := by
  unfold valueAt at h
  rw [Option.map_eq_some_iff] at h
  refine Classical.byContradiction fun hn9 => ?_
  obtain ⟨p, hp, rfl⟩ := h
  refine hn9 ?_
  clear hn9
  have h1 := List.find?_some hp
  have h2 := List.mem_of_find?_eq_some hp
  have e : p.1 = k := by simpa using h1
  rw [← e]; exact h2
theorem valueAt_of_mem {kvs : List (Str × Value)} {k : Str} {v : Value} (hn : (kvs.map (·.1)).Nodup) (h : (k, v) ∈ kvs) : valueAt kvs k = some v := by
  induction kvs with
  | nil => cases h
  | cons p r ih =>
    rw [List.map_cons, List.nodup_cons] at hn
    unfold valueAt
    rw [List.find?_cons]
    rcases List.mem_cons.mp h with rfl | h
    · simp
    · have hne : p.1 ≠ k := fun e => hn.1 (by rw [e]; exact List.mem_map_of_mem (f := Prod.fst) h)
      rw [decide_eq_false hne]
      exact ih hn.2 h
theorem n2kv_val {l : List Ent} {k : Str} {v : Value} (h : valueAt (n2kv l) k = some v) : ∃ j t, v = .int (j : Nat) t ∧ j < l.length := by
  have hm := valueAt_mem h
  clear h
  induction l with
  | nil => cases hm
  | cons e r ih =>
    simp only [n2kv] at hm
    rcases List.mem_append.mp hm with hm | hm
    · refine Classical.byContradiction fun hn9 => ?_
      obtain ⟨j, t, h1, h2⟩ := ih hm
      refine hn9 ?_
      clear hn9
      exact ⟨j, t, h1, by simp; omega⟩
    · simp at hm
      exact ⟨r.length, e.kt, hm.2, by simp⟩
theorem n2kv_push {l : List Ent} {e : Ent} (h : valueAt (n2kv l) e.i.name = none) : stored (n2kv l) e.i.name (.int l.length e.kt) = n2kv (e :: l) := by
  rw [stored_new h]; rfl
theorem n2kv_pop {l : List Ent} {e : Ent} (h : ((stkOf (e :: l)).map (·.1)).Nodup) : without (n2kv (e :: l)) e.i.name = n2kv l := by
  unfold without
  simp only [n2kv, List.filter_append]
  have h1 : e.i.name ∉ (n2kv l).map (·.1) := by
    rw [n2kv_keys, List.mem_reverse]
    simp only [stkOf, List.map_cons, List.nodup_cons] at h
    simpa [stkOf] using h.1
  have h2 : List.filter (fun kv : Str × Value => decide (kv.1 ≠ e.i.name)) (n2kv l) = n2kv l := by
    rw [List.filter_eq_self]
    intro a ha
    simp only [decide_eq_true_eq]
    intro q
    exact h1 (by rw [← q]; exact List.mem_map_of_mem ha)
  rw [h2]
  simp
/-- what find_cycle does not change -/
noncomputable def TTl (w : World) (S : Srt) (tl fr : Led) : Led := S.led w tl ++ fr
theorem same_keys : ∀ {a b : Led}, TI.SameUp a b → b.map (·.1) = a.map (·.1) := by
  intro a
  induction a with
  | nil => intro b h; cases b with
    | nil => rfl
    | cons _ _ => exact False.elim h
  | cons p a ih => intro b h; cases b with
    | nil => exact False.elim h
    | cons q b => simp only [List.map_cons, List.cons.injEq]; exact ⟨h.1, ih h.2.2⟩
theorem TTl_keys {w : World} {S : Srt} {tl fr fr' : Led} (h : TI.SameUp fr fr') : (TTl w S tl fr').map (·.1) = (TTl w S tl fr).map (·.1) := by
  unfold TTl; rw [List.map_append, List.map_append, same_keys h]
theorem TTl_d {w : World} {S : Srt} {tl fr : Led} : (S.d, S.od) ∈ TTl w S tl fr := by unfold TTl; simp
theorem mem_objs {l : List Info} {i : Info} {p : Addr × Obj} (hi : i ∈ l) (hp : p ∈ i.objs) : p ∈ objsOf l := List.mem_flatMap.mpr ⟨i, hi, hp⟩
theorem TTl_i {w : World} {S : Srt} {tl fr : Led} {i : Info} (hi : i ∈ S.infos) : (i.ia, infoO i.dx (.str i.name i.nt) (.int i.np i.npt) i.sl) ∈ TTl w S tl fr := by
  have := mem_objs hi (p := (i.ia, infoO i.dx (.str i.name i.nt) (.int i.np i.npt) i.sl)) (by simp [Info.objs])
  unfold TTl; simp [this]
theorem TTl_dx {w : World} {S : Srt} {tl fr : Led} {i : Info} (hi : i ∈ S.infos) : (i.dx, dictOf [] 0) ∈ TTl w S tl fr := by
  have := mem_objs hi (p := (i.dx, dictOf [] 0)) (by simp [Info.objs])
  unfold TTl; simp [this]
theorem TTl_s {w : World} {S : Srt} {tl fr : Led} {i : Info} (hi : i ∈ S.infos) : (i.sl, W.listOf (strValues i.ss).toArray i.sc) ∈ TTl w S tl fr := by
  have := mem_objs hi (p := (i.sl, W.listOf (strValues i.ss).toArray i.sc)) (by simp [Info.objs])
  unfold TTl; simp [this]
noncomputable def fcLed (ns se it st : Addr) (no so : Obj) (c2 c1 : Nat) (ents : List Ent) (T : Led) : Led :=
  (ns, no) :: (se, so) :: (it, W.listOf (itVals ents).toArray c2) :: (st, W.listOf (stVals ents).toArray c1) :: (entObjs ents ++ T)
theorem info_of {w : World} {S : Srt} (hS : S.Ok w) {x : Str} (h : x ∈ nmL S.infos) : ∃ i, i ∈ S.infos ∧ i.name = x ∧ valueAt (S.infos.map Info.kv) x = some (.ref i.ia) ∧ ssL S.infos x = i.ss.map (·.1) := by
  refine Classical.byContradiction fun hn9 => ?_
  obtain ⟨i, hi, rfl⟩ := List.mem_map.mp h
  refine hn9 ?_
  clear hn9
  refine Classical.byContradiction fun hn9 => ?_
  obtain ⟨A, B, e⟩ := List.append_of_mem hi
  refine hn9 ?_
  clear hn9
  refine ⟨i, hi, rfl, ?_, ?_⟩
  · have hd := hS.dict
    refine Classical.byContradiction fun hn9 => ?_
    obtain ⟨_, _, _, _, _, _, hn⟩ := hd
    refine hn9 ?_
    clear hn9
    exact valueAt_of_mem hn (List.mem_map.mpr ⟨i, hi, rfl⟩)
  · have := hS.nd
    rw [e] at this ⊢
    exact ss_self this
theorem len_le_of_sub {l l' : List Str} (hn : l.Nodup) (hs : ∀ x ∈ l, x ∈ l') : l.length ≤ l'.length := by
  induction l generalizing l' with
  | nil => simp
  | cons x l ih =>
    rw [List.nodup_cons] at hn
    have hx : x ∈ l' := hs x (.head _)
    have h1 := ih (l' := l'.erase x) hn.2 (fun y hy => by
      have hne : y ≠ x := fun e => hn.1 (e ▸ hy)
      exact (List.mem_erase_of_ne hne).mpr (hs y (.tail _ hy)))
    rw [List.length_erase_of_mem hx] at h1
    have : 0 < l'.length := List.length_pos_of_mem hx
    simp only [List.length_cons]; omega
theorem set_push {prog : Program} {w : World} {so : Obj} {seen : List Str} {y : Str} (hn : y ∉ seen) (h : so.SetObjOf (strKind prog w) (fun k' => (fun x => decide (x ∈ seen)) k' || decide (k' = y)) (if (fun x => decide (x ∈ seen)) y = true then seen.length else seen.length + 1)) :
    so.SetObjOf (strKind prog w) (fun x => decide (x ∈ y :: seen)) (y :: seen).length := by
  have e1 : (fun k' => (fun x => decide (x ∈ seen)) k' || decide (k' = y)) = fun x => decide (x ∈ y :: seen) := by
    funext x
    by_cases h1 : x ∈ seen <;> by_cases h2 : x = y <;> simp [h1, h2]
  have e2 : (if (fun x => decide (x ∈ seen)) y = true then seen.length else seen.length + 1) = (y :: seen).length := by simp [hn]
  rw [e1, e2] at h
  exact h
theorem ndx_out0 {T X : Led} (h : NDx T (X)) {P : Prop} (k : NDx T X → P) : P :=
  k h
theorem ndx_out1 {a0 : Addr} {o0 : Obj} {T X : Led} (h : NDx T ((a0, o0) :: X)) {P : Prop} (k : (∀ q ∈ (X ++ T), q.1 ≠ a0) → NDx T X → P) : P :=
  have c := h
  ndx_out0 c.2 (fun eE => k  (fun q hq => c.1 q (hq)) eE)
theorem ndx_out2 {a0 a1 : Addr} {o0 o1 : Obj} {T X : Led} (h : NDx T ((a0, o0) :: (a1, o1) :: X)) {P : Prop} (k : a1 ≠ a0 → (∀ q ∈ (X ++ T), q.1 ≠ a0) → (∀ q ∈ (X ++ T), q.1 ≠ a1) → NDx T X → P) : P :=
  have c := h
  ndx_out1 c.2 (fun eR1 eE => k (c.1 _ (List.mem_append_left _ (.head _))) (fun q hq => c.1 q (.tail _ hq)) eR1 eE)
theorem ndx_out3 {a0 a1 a2 : Addr} {o0 o1 o2 : Obj} {T X : Led} (h : NDx T ((a0, o0) :: (a1, o1) :: (a2, o2) :: X)) {P : Prop} (k : a1 ≠ a0 → a2 ≠ a0 → (∀ q ∈ (X ++ T), q.1 ≠ a0) → a2 ≠ a1 → (∀ q ∈ (X ++ T), q.1 ≠ a1) → (∀ q ∈ (X ++ T), q.1 ≠ a2) → NDx T X → P) : P :=
  have c := h
  ndx_out2 c.2 (fun e12 eR1 eR2 eE => k (c.1 _ (List.mem_append_left _ (.head _))) (c.1 _ (List.mem_append_left _ (.tail _ (.head _)))) (fun q hq => c.1 q (.tail _ (.tail _ hq))) e12 eR1 eR2 eE)
theorem ndx_out4 {a0 a1 a2 a3 : Addr} {o0 o1 o2 o3 : Obj} {T X : Led} (h : NDx T ((a0, o0) :: (a1, o1) :: (a2, o2) :: (a3, o3) :: X)) {P : Prop} (k : a1 ≠ a0 → a2 ≠ a0 → a3 ≠ a0 → (∀ q ∈ (X ++ T), q.1 ≠ a0) → a2 ≠ a1 → a3 ≠ a1 → (∀ q ∈ (X ++ T), q.1 ≠ a1) → a3 ≠ a2 → (∀ q ∈ (X ++ T), q.1 ≠ a2) → (∀ q ∈ (X ++ T), q.1 ≠ a3) → NDx T X → P) : P :=
  have c := h
  ndx_out3 c.2 (fun e12 e13 eR1 e23 eR2 eR3 eE => k (c.1 _ (List.mem_append_left _ (.head _))) (c.1 _ (List.mem_append_left _ (.tail _ (.head _)))) (c.1 _ (List.mem_append_left _ (.tail _ (.tail _ (.head _))))) (fun q hq => c.1 q (.tail _ (.tail _ (.tail _ hq)))) e12 e13 eR1 e23 eR2 eR3 eE)
theorem ndx_out5 {a0 a1 a2 a3 a4 : Addr} {o0 o1 o2 o3 o4 : Obj} {T X : Led} (h : NDx T ((a0, o0) :: (a1, o1) :: (a2, o2) :: (a3, o3) :: (a4, o4) :: X)) {P : Prop} (k : a1 ≠ a0 → a2 ≠ a0 → a3 ≠ a0 → a4 ≠ a0 → (∀ q ∈ (X ++ T), q.1 ≠ a0) → a2 ≠ a1 → a3 ≠ a1 → a4 ≠ a1 → (∀ q ∈ (X ++ T), q.1 ≠ a1) → a3 ≠ a2 → a4 ≠ a2 → (∀ q ∈ (X ++ T), q.1 ≠ a2) → a4 ≠ a3 → (∀ q ∈ (X ++ T), q.1 ≠ a3) → (∀ q ∈ (X ++ T), q.1 ≠ a4) → NDx T X → P) : P :=
  have c := h
  ndx_out4 c.2 (fun e12 e13 e14 eR1 e23 e24 eR2 e34 eR3 eR4 eE => k (c.1 _ (List.mem_append_left _ (.head _))) (c.1 _ (List.mem_append_left _ (.tail _ (.head _)))) (c.1 _ (List.mem_append_left _ (.tail _ (.tail _ (.head _))))) (c.1 _ (List.mem_append_left _ (.tail _ (.tail _ (.tail _ (.head _)))))) (fun q hq => c.1 q (.tail _ (.tail _ (.tail _ (.tail _ hq))))) e12 e13 e14 eR1 e23 e24 eR2 e34 eR3 eR4 eE)
theorem ndx_out6 {a0 a1 a2 a3 a4 a5 : Addr} {o0 o1 o2 o3 o4 o5 : Obj} {T X : Led} (h : NDx T ((a0, o0) :: (a1, o1) :: (a2, o2) :: (a3, o3) :: (a4, o4) :: (a5, o5) :: X)) {P : Prop} (k : a1 ≠ a0 → a2 ≠ a0 → a3 ≠ a0 → a4 ≠ a0 → a5 ≠ a0 → (∀ q ∈ (X ++ T), q.1 ≠ a0) → a2 ≠ a1 → a3 ≠ a1 → a4 ≠ a1 → a5 ≠ a1 → (∀ q ∈ (X ++ T), q.1 ≠ a1) → a3 ≠ a2 → a4 ≠ a2 → a5 ≠ a2 → (∀ q ∈ (X ++ T), q.1 ≠ a2) → a4 ≠ a3 → a5 ≠ a3 → (∀ q ∈ (X ++ T), q.1 ≠ a3) → a5 ≠ a4 → (∀ q ∈ (X ++ T), q.1 ≠ a4) → (∀ q ∈ (X ++ T), q.1 ≠ a5) → NDx T X → P) : P :=
  have c := h
  ndx_out5 c.2 (fun e12 e13 e14 e15 eR1 e23 e24 e25 eR2 e34 e35 eR3 e45 eR4 eR5 eE => k (c.1 _ (List.mem_append_left _ (.head _))) (c.1 _ (List.mem_append_left _ (.tail _ (.head _)))) (c.1 _ (List.mem_append_left _ (.tail _ (.tail _ (.head _))))) (c.1 _ (List.mem_append_left _ (.tail _ (.tail _ (.tail _ (.head _)))))) (c.1 _ (List.mem_append_left _ (.tail _ (.tail _ (.tail _ (.tail _ (.head _))))))) (fun q hq => c.1 q (.tail _ (.tail _ (.tail _ (.tail _ (.tail _ hq)))))) e12 e13 e14 e15 eR1 e23 e24 e25 eR2 e34 e35 eR3 e45 eR4 eR5 eE)
theorem ndx_out7 {a0 a1 a2 a3 a4 a5 a6 : Addr} {o0 o1 o2 o3 o4 o5 o6 : Obj} {T X : Led} (h : NDx T ((a0, o0) :: (a1, o1) :: (a2, o2) :: (a3, o3) :: (a4, o4) :: (a5, o5) :: (a6, o6) :: X)) {P : Prop} (k : a1 ≠ a0 → a2 ≠ a0 → a3 ≠ a0 → a4 ≠ a0 → a5 ≠ a0 → a6 ≠ a0 → (∀ q ∈ (X ++ T), q.1 ≠ a0) → a2 ≠ a1 → a3 ≠ a1 → a4 ≠ a1 → a5 ≠ a1 → a6 ≠ a1 → (∀ q ∈ (X ++ T), q.1 ≠ a1) → a3 ≠ a2 → a4 ≠ a2 → a5 ≠ a2 → a6 ≠ a2 → (∀ q ∈ (X ++ T), q.1 ≠ a2) → a4 ≠ a3 → a5 ≠ a3 → a6 ≠ a3 → (∀ q ∈ (X ++ T), q.1 ≠ a3) → a5 ≠ a4 → a6 ≠ a4 → (∀ q ∈ (X ++ T), q.1 ≠ a4) → a6 ≠ a5 → (∀ q ∈ (X ++ T), q.1 ≠ a5) → (∀ q ∈ (X ++ T), q.1 ≠ a6) → NDx T X → P) : P :=
  have c := h
  ndx_out6 c.2 (fun e12 e13 e14 e15 e16 eR1 e23 e24 e25 e26 eR2 e34 e35 e36 eR3 e45 e46 eR4 e56 eR5 eR6 eE => k (c.1 _ (List.mem_append_left _ (.head _))) (c.1 _ (List.mem_append_left _ (.tail _ (.head _)))) (c.1 _ (List.mem_append_left _ (.tail _ (.tail _ (.head _))))) (c.1 _ (List.mem_append_left _ (.tail _ (.tail _ (.tail _ (.head _)))))) (c.1 _ (List.mem_append_left _ (.tail _ (.tail _ (.tail _ (.tail _ (.head _))))))) (c.1 _ (List.mem_append_left _ (.tail _ (.tail _ (.tail _ (.tail _ (.tail _ (.head _)))))))) (fun q hq => c.1 q (.tail _ (.tail _ (.tail _ (.tail _ (.tail _ (.tail _ hq))))))) e12 e13 e14 e15 e16 eR1 e23 e24 e25 e26 eR2 e34 e35 e36 eR3 e45 e46 eR4 e56 eR5 eR6 eE)
end Mine
-- FcJ
open PySem PySem.W PySem.Calls PyProof.Rows
namespace Mine

/-- what holds of the ledger's parts -/
structure FcOk (w : World) (S : Srt) (tl fr fr' : Led) (hd0 : Led) (ns se it st : Addr) (no so : Obj) (ents : List Ent) (seen : List Str) : Prop where
  up : TI.SameUp fr fr'
  dict : no.IsDictOf (strKind PySem.Challenge.rw_pd0160_01.row.prog w) (n2kv ents)
  set : so.SetObjOf (strKind PySem.Challenge.rw_pd0160_01.row.prog w) (fun x => decide (x ∈ seen)) seen.length
  ndS : seen.Nodup
  sub : ∀ x ∈ seen, x ∈ nmL S.infos
  inf : ∀ e ∈ ents, e.i ∈ S.infos
  nd : NDx (TTl w S tl fr) (hd0 ++ ((ns, no) :: (se, so) :: (it, W.listOf (itVals ents).toArray 0) :: (st, W.listOf (stVals ents).toArray 0) :: entObjs ents))
inductive JF (w : World) (S : Srt) (tl fr : Led) (ns se it st : Addr) (m₀ : Str → Option Value) (i : Nat) (m : Str → Option Value) (n : Led) : Prop
  | mk (seen : _)
    (fin : _)
    (fr' : _)
    (no : _)
    (so : _)
    (c2 : _)
    (c1 : _)
    (u : _)
    (hz0 : FcOk w S tl fr fr' [] ns se it st no so [] seen)
    (hz1 : DInv (ssL S.infos) seen fin none [])
    (hz2 : (∀ k x, k < i → (nmL S.infos)[k]? = some x → x ∈ seen))
    (hz3 : m = (fun y => if y = Str.ofString "node" then u else m₀ y))
    (hz4 : n = fcLed ns se it st no so c2 c1 [] (TTl w S tl fr'))
inductive JA (w : World) (S : Srt) (tl fr : Led) (ns se it st I : Addr) (io : Obj) (m₀ : Str → Option Value) (seen₀ : List Str) (x₀ : Str) (k : Nat) (m : Str → Option Value) (n : Led) : Prop
  | mk (seen : _)
    (fin : _)
    (fr' : _)
    (no : _)
    (so : _)
    (c2 : _)
    (c1 : _)
    (ents : _)
    (x : _)
    (tn : _)
    (hz0 : FcOk w S tl fr fr' [(I, io)] ns se it st no so ents seen)
    (hz1 : DInv (ssL S.infos) seen fin (some x) (stkOf ents))
    (hz2 : x ∈ nmL S.infos)
    (hz3 : (ents = [] → x ∉ seen))
    (hz4 : k = leftOf (ssL S.infos) (nmL S.infos) seen (stkOf ents))
    (hz5 : (∀ y ∈ seen₀, y ∈ seen))
    (hz6 : (x₀ ∈ seen ∨ x = x₀))
    (hz7 : m = (fun y => if y = Str.ofString "node" then some (.str x tn) else m₀ y))
    (hz8 : n = (I, io) :: fcLed ns se it st no so c2 c1 ents (TTl w S tl fr'))
inductive JB (w : World) (S : Srt) (tl fr : Led) (ns se it st I : Addr) (io : Obj) (m₀ : Str → Option Value) (seen₀ : List Str) (x₀ : Str) (k : Nat) (kb : Nat) (m : Str → Option Value) (n : Led) : Prop
  | mk (seen : _)
    (fin : _)
    (fr' : _)
    (no : _)
    (so : _)
    (c2 : _)
    (c1 : _)
    (ents : _)
    (u : _)
    (hz0 : FcOk w S tl fr fr' [(I, io)] ns se it st no so ents seen)
    (hz1 : DInv (ssL S.infos) seen fin none (stkOf ents))
    (hz2 : kb = ents.length)
    (hz3 : leftOf (ssL S.infos) (nmL S.infos) seen (stkOf ents) ≤ k)
    (hz4 : (∀ y ∈ seen₀, y ∈ seen))
    (hz5 : x₀ ∈ seen)
    (hz6 : m = (fun y => if y = Str.ofString "node" then u else m₀ y))
    (hz7 : n = (I, io) :: fcLed ns se it st no so c2 c1 ents (TTl w S tl fr'))
noncomputable def FcPost (w : World) (S : Srt) (tl : Led) (v : Value) (n' : Led) : Prop :=
  (v = .none ∧ ¬ HasRing (ssL S.infos) ∧ n' = S.led w tl) ∨ (∃ a vs c, v = .ref a ∧ vs ≠ [] ∧ vs.length ≤ 5000 ∧ HasRing (ssL S.infos) ∧ n' = (a, W.listOf vs.toArray c) :: S.led w tl)
noncomputable def MidA (w : World) (S : Srt) (tl fr : Led) (ns se it st I : Addr) (io : Obj) (m₀ : Str → Option Value) (seen₀ : List Str) (x₀ : Str) (k : Nat) (h₀ : Heap) (L : Addr) (s : Shared) (f : Flow) (s' : Shared) : Prop :=
  (f = .next ∧ ∃ h tk m n kb, s' = { s with heap := h, toks := tk } ∧ Fr h₀ L h m ∧ News h₀ L h n ∧ JB w S tl fr ns se it st I io m₀ seen₀ x₀ k kb m n) ∨
  (∃ a vs c h tk m fr', f = .ret (.ref a) ∧ s' = { s with heap := h, toks := tk } ∧ vs ≠ [] ∧ vs.length ≤ 5000 ∧ HasRing (ssL S.infos) ∧ TI.SameUp fr fr' ∧ Fr h₀ L h m ∧ News h₀ L h ((a, W.listOf vs.toArray c) :: TTl w S tl fr') ∧ ∀ q ∈ TTl w S tl fr', q.1 ≠ a)
section
variable {w : World} {S : Srt} {tl fr fr1 : Led} {ns se it st I : Addr} {io no so no1 so1 : Obj} {m₀ m : Str → Option Value} {seen₀ seen fin : List Str} {x₀ y : Str} {k : Nat} {h₀ h : Heap} {L : Addr} {s : Shared} {tk : Nat} {ents : List Ent} {c1 c2 : Nat}
theorem midA_ring {a l' D1 : Addr} {ol oD : Obj} {lo hi : Option Int} {v : Value} {c : Nat} (hok : FcOk w S tl fr fr1 [(I, io)] ns se it st no so ents seen) (hd : DInv (ssL S.infos) seen fin (some y) (stkOf ents)) (hst : y ∈ (stkOf ents).map (·.1)) (hl : (stVals ents).length ≤ 900)
    (hlt : l' < a ∧ D1 < a ∧ I < a ∧ ns < a ∧ se < a ∧ it < a ∧ st < a ∧ AllLt a (entObjs ents ++ TTl w S tl fr1))
    (F : Fr h₀ L h m) (N : News h₀ L h ((a, W.listOf ((slicePick (stVals ents).toArray lo hi none).toList ++ (#[v] : Array Value).toList).toArray c) :: (l', ol) :: (D1, oD) :: (I, io) :: (ns, no) :: (se, so) :: (it, W.listOf (itVals ents).toArray c2) :: (st, W.listOf (stVals ents).toArray c1) :: (entObjs ents ++ TTl w S tl fr1))) :
    MidA w S tl fr ns se it st I io m₀ seen₀ x₀ k h₀ L s (.ret (.ref a)) { s with heap := h, toks := tk } := by
  refine .inr ⟨a, (slicePick (stVals ents).toArray lo hi none).toList ++ (#[v] : Array Value).toList, c, h, tk, m, fr1, rfl, rfl, ?_, ?_, dinv_ring hd hst, hok.up, F, cb_drop N (fun q hq => ?_), fun q hq => Nat.ne_of_lt (ktn_ltOf hlt.2.2.2.2.2.2.2 q (List.mem_append_right _ hq))⟩
  · simp
  · have := slicePick_size_le (stVals ents).toArray lo hi none
    simp only [List.size_toArray] at this
    simp only [List.length_append, Array.length_toList, List.length_cons, List.length_nil]
    omega
  · rcases List.mem_cons.mp hq with rfl | hq
    · simp
    · simp [hq]
theorem midA_old {ty : Tok} (hok : FcOk w S tl fr fr1 [(I, io)] ns se it st no so ents seen) (hd : DInv (ssL S.infos) seen fin (some y) (stkOf ents)) (hst : y ∉ (stkOf ents).map (·.1)) (hin : y ∈ seen)
    (hk : k = leftOf (ssL S.infos) (nmL S.infos) seen (stkOf ents)) (hse : ∀ z ∈ seen₀, z ∈ seen) (hx : x₀ ∈ seen ∨ y = x₀)
    (F : Fr h₀ L h (fun z => if z = Str.ofString "node" then some (.str y ty) else m₀ z)) (N : News h₀ L h ((I, io) :: (ns, no) :: (se, so) :: (it, W.listOf (itVals ents).toArray c2) :: (st, W.listOf (stVals ents).toArray c1) :: (entObjs ents ++ TTl w S tl fr1))) :
    MidA w S tl fr ns se it st I io m₀ seen₀ x₀ k h₀ L s .next { s with heap := h, toks := tk } :=
  .inl ⟨rfl, h, tk, _, _, ents.length, rfl, F, N, seen, fin, fr1, no, so, c2, c1, ents, _, hok, dinv_old hd hin hst, rfl, Nat.le_of_eq hk.symm, hse, hx.elim id (fun e => e ▸ hin), rfl, rfl⟩
theorem fresh_lt {a : Addr} {T T' l : Led} (e : T'.map (·.1) = T.map (·.1)) (h : AllLt a (l ++ T')) : ∀ q ∈ l ++ T, q.1 < a := by
  intro q hq
  rcases List.mem_append.mp hq with hq | hq
  · exact ktn_ltOf h q (List.mem_append_left _ hq)
  · have : q.1 ∈ T'.map (·.1) := by rw [e]; exact List.mem_map_of_mem hq
    refine Classical.byContradiction fun hn9 => ?_
    obtain ⟨q', hq', e'⟩ := List.mem_map.mp this
    refine hn9 ?_
    clear hn9
    rw [← e']
    exact ktn_ltOf h q' (List.mem_append_right _ hq')
theorem midA_push {i : Info} {wa ia : Addr} {ty kt : Tok} {dl : Nat} (hok : FcOk w S tl fr fr1 [(I, io)] ns se it st no so ents seen) (hd : DInv (ssL S.infos) seen fin (some i.name) (stkOf ents)) (hin : i.name ∉ seen) (hi : i ∈ S.infos) (hnd : (nmL S.infos).Nodup)
    (hval : valueAt (n2kv ents) i.name = none) (hk : k = leftOf (ssL S.infos) (nmL S.infos) seen (stkOf ents)) (hse : ∀ z ∈ seen₀, z ∈ seen) (hx : x₀ ∈ seen ∨ i.name = x₀)
    (hd5 : no1.IsDictOf (strKind PySem.Challenge.rw_pd0160_01.row.prog w) (stored (n2kv ents) i.name (.int (dl : Nat) kt))) (hdl : dl = ents.length)
    (hs5 : so1.SetObjOf (strKind PySem.Challenge.rw_pd0160_01.row.prog w) (fun k' => decide (k' ∈ seen) || decide (k' = i.name)) (if decide (i.name ∈ seen) = true then seen.length else seen.length + 1))
    (hlt1 : I < ia ∧ ns < ia ∧ se < ia ∧ it < ia ∧ st < ia ∧ AllLt ia (entObjs ents ++ TTl w S tl fr1)) (hlt2 : ia < wa ∧ I < wa ∧ ns < wa ∧ se < wa ∧ it < wa ∧ st < wa ∧ AllLt wa (entObjs ents ++ TTl w S tl fr1))
    (F : Fr h₀ L h (fun z => if z = Str.ofString "node" then some (.str i.name ty) else m₀ z))
    (N : News h₀ L h ((wa, Mw.mwO ia) :: (ia, Mw.liO i.sl 0) :: (I, io) :: (ns, no1) :: (se, so1) :: (it, W.listOf (itVals ents ++ [Value.ref wa]).toArray c2) :: (st, W.listOf (stVals ents ++ [Value.str i.name ty]).toArray c1) :: (entObjs ents ++ TTl w S tl fr1))) :
    MidA w S tl fr ns se it st I io m₀ seen₀ x₀ k h₀ L s .next { s with heap := h, toks := tk } := by
  subst hdl
  have hn : i.name ∈ nmL S.infos := List.mem_map_of_mem hi
  rw [n2kv_push (e := ⟨i, wa, ia, 0, ty, kt⟩) hval] at hd5
  have hs6 := set_push hin hs5
  refine Classical.byContradiction fun hn9 => ?_
  obtain ⟨a1, a2, a3, a4, a5, a6⟩ := hlt1
  refine hn9 ?_
  clear hn9
  refine Classical.byContradiction fun hn9 => ?_
  obtain ⟨b0, b1, b2, b3, b4, b5, b6⟩ := hlt2
  refine hn9 ?_
  clear hn9
  have hnx1 := ndx_fresh (o := Mw.liO i.sl 0) hok.nd (a := ia) (by
    simp only [List.cons_append, List.nil_append, List.forall_mem_cons]
    exact ⟨a1, a2, a3, a4, a5, fresh_lt (TTl_keys hok.up) a6⟩)
  have hnx2 := ndx_fresh (o := Mw.mwO ia) hnx1 (a := wa) (by
    simp only [List.cons_append, List.nil_append, List.forall_mem_cons]
    exact ⟨b0, b1, b2, b3, b4, b5, fresh_lt (TTl_keys hok.up) b6⟩)
  have hnx3 := ndx_perm (l' := [(I, io)] ++ ((ns, no) :: (se, so) :: (it, W.listOf (itVals ents).toArray 0) :: (st, W.listOf (stVals ents).toArray 0) :: (wa, Mw.mwO ia) :: (ia, Mw.liO i.sl 0) :: entObjs ents)) hnx2 (by
    have := (List.perm_append_comm_assoc [(wa, Mw.mwO ia), (ia, Mw.liO i.sl 0)] [(I, io), (ns, no), (se, so), (it, W.listOf (itVals ents).toArray 0), (st, W.listOf (stVals ents).toArray 0)] (entObjs ents))
    simpa using this)
  refine .inl ⟨rfl, h, tk, _, _, ents.length + 1, rfl, F, cb_drop N (fun q hq => ?_), i.name :: seen, fin, fr1, no1, so1, c2, c1, ⟨i, wa, ia, 0, ty, kt⟩ :: ents, _, ⟨hok.up, hd5, hs6, ?_, ?_, ?_, ?_⟩, dinv_push hd hin, rfl, ?_, fun z hz => .tail _ (hse z hz), ?_, rfl, rfl⟩
  · simp only [fcLed, entObjs, itVals, stVals, List.mem_cons, List.cons_append] at hq ⊢
    rcases hq with h | h | h | h | h | h | h | h <;> simp [h]
  · rw [List.nodup_cons]; exact ⟨hin, hok.ndS⟩
  · intro z hz
    rcases List.mem_cons.mp hz with rfl | hz
    · exact hn
    · exact hok.sub z hz
  · intro e he
    rcases List.mem_cons.mp he with rfl | he
    · exact hi
    · exact hok.inf e he
  · exact ndx_keys (by rfl) hnx3
  · have := left_push (ss := ssL S.infos) (stk := stkOf ents) hnd hin hn
    show leftOf _ _ _ ((i.name, 0) :: stkOf ents) ≤ k
    omega
  · rcases hx with hx | hx
    · exact .tail _ hx
    · rw [← hx]; exact .head _
end
theorem back_to {w : World} {S : Srt} {tl fr fr' x : Led} {g h : Heap} {l : List Env} {L : Addr} {m : Str → Option Value} (fr2 : fr.map (·.1) = frs l) (fr3 : ∀ q ∈ fr, g.get? q.1 = some q.2) (ap : ∀ p ∈ S.led w tl, ∀ q ∈ fr, q.1 ≠ p.1) (SU : TI.SameUp fr fr')
    (F : Fr (TI.gone g (frs l)) L h m) (N : News (TI.gone g (frs l)) L h (x ++ TTl w S tl fr')) (hx : ∀ p ∈ x, ∀ q ∈ TTl w S tl fr', q.1 ≠ p.1) : ∃ g', KtsTurn (frs l) g g' ∧ Fr g' L h m ∧ News g' L h (x ++ S.led w tl) := by
  refine unswap (fr' := fr') fr2 fr3 F (cb_drop N (fun q hq => ?_)) SU ?_
  · unfold TTl
    simpa only [List.append_assoc] using hq
  · intro p hp q hq
    rcases List.mem_append.mp hp with hp | hp
    · exact hx p hp q (by unfold TTl; exact List.mem_append_right _ hq)
    · refine Classical.byContradiction fun hn9 => ?_
      obtain ⟨q', hq', e⟩ := SU.fwd q hq
      refine hn9 ?_
      clear hn9
      rw [e]
      exact ap p hp q' hq'
theorem ok_out {w : World} {S : Srt} {tl fr fr' : Led} {p : Addr × Obj} {ns se it st : Addr} {no so : Obj} {ents : List Ent} {seen : List Str} (h : FcOk w S tl fr fr' [p] ns se it st no so ents seen) : FcOk w S tl fr fr' [] ns se it st no so ents seen :=
  ⟨h.up, h.dict, h.set, h.ndS, h.sub, h.inf, h.nd.2⟩
theorem ok_off {w : World} {S : Srt} {tl fr fr' : Led} {I : Addr} {io : Obj} {ns se it st : Addr} {no so : Obj} {ents : List Ent} {seen : List Str} {c2 c1 : Nat} (h : FcOk w S tl fr fr' [(I, io)] ns se it st no so ents seen) : ∀ p ∈ fcLed ns se it st no so c2 c1 ents (TTl w S tl fr'), p.1 ≠ I := by
  have hx := (ndx_keysT (TTl_keys h.up) h.nd).1
  have h2 : ∀ q ∈ (ns, no) :: (se, so) :: (it, W.listOf (itVals ents).toArray 0) :: (st, W.listOf (stVals ents).toArray 0) :: (entObjs ents ++ TTl w S tl fr'), q.1 ≠ I := hx
  unfold fcLed
  simp only [List.forall_mem_cons] at h2 ⊢
  exact h2
inductive MidT (hds : List (Addr × Obj)) (e : Ent) (T : Led) (m₀ : Str → Option Value) (h₀ : Heap) (L : Addr) (s : Shared) (f : Flow) (s' : Shared) : Prop
  | mk (hz0 : f = .brk)
    (h : _)
    (tk : _)
    (x : _)
    (t : _)
    (hz1 : s' = { s with heap := h, toks := tk })
    (hz2 : e.i.ss[e.pos]? = some (x, t))
    (hz3 : Fr h₀ L h (fun y => if y = Str.ofString "node" then some (.str x t) else m₀ y))
    (hz4 : News h₀ L h (hds ++ (e.wa, Mw.mwO e.ia) :: (e.ia, Mw.liO e.i.sl (e.pos + 1)) :: T))
inductive ExcT (hds : List (Addr × Obj)) (e : Ent) (u : Option Value) (T : Led) (m₀ : Str → Option Value) (h₀ : Heap) (L : Addr) (s : Shared) (v : Value) (s' : Shared) : Prop
  | mk (e' : _)
    (h₁ : _)
    (h' : _)
    (tk : _)
    (hz0 : v = .ref e')
    (hz1 : s' = { s with heap := h', toks := tk })
    (hz2 : e.i.ss[e.pos]? = none)
    (hz3 : Fr h₀ L h₁ (fun y => if y = Str.ofString "node" then u else m₀ y))
    (hz4 : News h₀ L h₁ (hds ++ T))
    (hz5 : Heap.NewExc h₁ h' e' "StopIteration")
section
variable {w : World} {S : Srt} {tl fr fr3 : Led} {ns se it st I : Addr} {io no so no4 : Obj} {m₀ m : Str → Option Value} {seen₀ seen fin : List Str} {x₀ : Str} {k : Nat} {h₀ h : Heap} {L : Addr} {s : Shared} {tk : Nat} {e : Ent} {r : List Ent} {c1 c2 : Nat} {Q : Flow → Shared → Prop}
theorem ss_of {w : World} {S : Srt} (hS : S.Ok w) {i : Info} (hi : i ∈ S.infos) : ssL S.infos i.name = i.ss.map (·.1) := by
  refine Classical.byContradiction fun hn9 => ?_
  obtain ⟨A, B, e⟩ := List.append_of_mem hi
  refine hn9 ?_
  clear hn9
  have := hS.nd
  rw [e] at this ⊢
  exact ss_self this
theorem stepA_item {x : Str} {t : Tok} (hS : S.Ok w) (hcl : ∀ x y, y ∈ ssL S.infos x → y ∈ nmL S.infos) (hok : FcOk w S tl fr fr3 [(I, io)] ns se it st no so (e :: r) seen) (hd : DInv (ssL S.infos) seen fin none (stkOf (e :: r)))
    (hget : e.i.ss[e.pos]? = some (x, t)) (hk : leftOf (ssL S.infos) (nmL S.infos) seen (stkOf (e :: r)) ≤ k) (hse : ∀ z ∈ seen₀, z ∈ seen) (hx : x₀ ∈ seen)
    (F : Fr h₀ L h (fun y => if y = Str.ofString "node" then some (.str x t) else m₀ y))
    (N : News h₀ L h ([(I, io), (ns, no), (se, so), (it, W.listOf (itVals r ++ [Value.ref e.wa]).toArray c2), (st, W.listOf (stVals r ++ [Value.str e.i.name e.tn]).toArray c1)] ++ (e.wa, Mw.mwO e.ia) :: (e.ia, Mw.liO e.i.sl (e.pos + 1)) :: (entObjs r ++ TTl w S tl fr3))) :
    WhileStep2 h₀ L s (JA w S tl fr ns se it st I io m₀ seen₀ x₀) Q k .next { s with heap := h, toks := tk } := by
  have hss := ss_of hS (hok.inf e (.head _))
  have hlt : e.pos < e.i.ss.length := (List.getElem?_eq_some_iff.mp hget).1
  have hn : (ssL S.infos e.i.name)[e.pos]? = some x := by rw [hss, List.getElem?_map, hget]; rfl
  have hm := left_next (ss := ssL S.infos) (names := nmL S.infos) (seen := seen) (stk := stkOf r) (x := e.i.name) (p := e.pos) (by rw [hss]; simpa using hlt)
  refine step2_next (n' := leftOf (ssL S.infos) (nmL S.infos) seen (stkOf ({ e with pos := e.pos + 1 } :: r))) (.inl rfl) F N ?_ ⟨seen, fin, fr3, no, so, c2, c1, { e with pos := e.pos + 1 } :: r, x, t, ⟨hok.up, hok.dict, hok.set, hok.ndS, hok.sub, ?_, ndx_keys (by rfl) hok.nd⟩, dinv_next hd hn, hcl _ _ (List.mem_of_getElem? hn), (fun q => by cases q), rfl, hse, .inl hx, rfl, rfl⟩
  · show leftOf _ _ _ ((e.i.name, e.pos + 1) :: stkOf r) < k
    have : stkOf (e :: r) = (e.i.name, e.pos) :: stkOf r := rfl
    rw [this] at hk
    omega
  · intro e' he'
    rcases List.mem_cons.mp he' with rfl | he'
    · exact hok.inf e (.head _)
    · exact hok.inf e' (.tail _ he')
theorem stepB_end {u : Option Value} (hS : S.Ok w) {fr4 : Led} (hok : FcOk w S tl fr fr3 [(I, io)] ns se it st no so (e :: r) seen) (up4 : TI.SameUp fr3 fr4) (hd : DInv (ssL S.infos) seen fin none (stkOf (e :: r)))
    (hget : e.i.ss[e.pos]? = none) (hk : leftOf (ssL S.infos) (nmL S.infos) seen (stkOf (e :: r)) ≤ k) (hse : ∀ z ∈ seen₀, z ∈ seen) (hx : x₀ ∈ seen)
    (hdict : no4.IsDictOf (strKind PySem.Challenge.rw_pd0160_01.row.prog w) (without (n2kv (e :: r)) e.i.name)) {kb : Nat} (hkb : kb = (e :: r).length)
    (F : Fr h₀ L h (fun y => if y = Str.ofString "node" then u else m₀ y))
    (N : News h₀ L h ((I, io) :: (ns, no4) :: (se, so) :: (it, W.listOf (itVals r).toArray c2) :: (st, W.listOf (stVals r).toArray c1) :: (entObjs r ++ TTl w S tl fr4))) :
    WhileStep2 h₀ L s (JB w S tl fr ns se it st I io m₀ seen₀ x₀ k) Q kb .next { s with heap := h, toks := tk } := by
  have hss := ss_of hS (hok.inf e (.head _))
  have hge : (ssL S.infos e.i.name).length ≤ e.pos := by
    rw [hss, List.length_map]
    exact List.getElem?_eq_none_iff.mp hget
  rw [n2kv_pop hd.ndS] at hdict
  have hm := left_pop (ss := ssL S.infos) (names := nmL S.infos) (seen := seen) (stk := stkOf r) hge
  refine step2_next (n' := r.length) (.inl rfl) F N (by rw [hkb]; simp) ⟨seen, fin ++ [e.i.name], fr4, no4, so, c2, c1, r, u, ⟨hok.up.trans up4, hdict, hok.set, hok.ndS, hok.sub, fun e' he' => hok.inf e' (.tail _ he'), ?_⟩, dinv_pop hd hge, rfl, ?_, hse, hx, rfl, rfl⟩
  · refine ndx_sub (l := [(I, io)] ++ ((ns, no4) :: (se, so) :: (it, W.listOf (itVals r).toArray 0) :: (st, W.listOf (stVals r).toArray 0) :: entObjs (e :: r))) (ndx_keys (by rfl) hok.nd) ?_
    refine List.Sublist.append_left (.cons₂ _ (.cons₂ _ (.cons₂ _ (.cons₂ _ ?_)))) [(I, io)]
    exact .cons _ (.cons _ (List.Sublist.refl _))
  · have : stkOf (e :: r) = (e.i.name, e.pos) :: stkOf r := rfl
    rw [this] at hk
    omega
end
theorem hap_new {w : World} {S : Srt} {tl fr fr3 : Led} {ns se it st I : Addr} {io no so : Obj} {seen : List Str} {h₀ h : Heap} {L : Addr} {e : Ent} {r : List Ent} {a1 a2 : Obj} (hok : FcOk w S tl fr fr3 [(I, io)] ns se it st no so (e :: r) seen) (ap : ∀ p ∈ S.led w tl, ∀ q ∈ fr, q.1 ≠ p.1)
    (N : News h₀ L h ([(I, io), (ns, no), (se, so), (it, a1), (st, a2)] ++ (entObjs r ++ TTl w S tl fr3))) : ∀ p ∈ [(I, io), (ns, no), (se, so), (it, a1), (st, a2)] ++ (entObjs r ++ S.led w tl), p.1 ∉ L :: fr3.map (·.1) := by
  intro p hp hm
  have hT := (ndx_iff.mp (ndx_keysT (TTl_keys hok.up) hok.nd)).2
  have hin : p ∈ [(I, io), (ns, no), (se, so), (it, a1), (st, a2)] ++ (entObjs r ++ TTl w S tl fr3) := by
    rcases List.mem_append.mp hp with hp | hp
    · exact List.mem_append_left _ hp
    · rcases List.mem_append.mp hp with hp | hp
      · exact List.mem_append_right _ (List.mem_append_left _ hp)
      · exact List.mem_append_right _ (List.mem_append_right _ (by unfold TTl; exact List.mem_append_left _ hp))
  rcases List.mem_cons.mp hm with hm | hm
  · exact (N p hin).2.1 hm
  · refine Classical.byContradiction fun hn9 => ?_
    obtain ⟨q, hq, e1⟩ := List.mem_map.mp hm
    refine hn9 ?_
    clear hn9
    have hqT : q ∈ TTl w S tl fr3 := by unfold TTl; exact List.mem_append_right _ hq
    have key : ∀ a, (∃ o, (a, o) ∈ [(I, io)] ++ ((ns, no) :: (se, so) :: (it, W.listOf (itVals (e :: r)).toArray 0) :: (st, W.listOf (stVals (e :: r)).toArray 0) :: entObjs (e :: r))) → q.1 ≠ a := fun a ⟨o, ho⟩ => hT _ ho q hqT
    rcases List.mem_append.mp hp with hp | hp
    · simp only [List.mem_cons, List.not_mem_nil, or_false] at hp
      rcases hp with rfl | rfl | rfl | rfl | rfl
      · exact key I ⟨io, by simp⟩ e1
      · exact key ns ⟨no, by simp⟩ e1
      · exact key se ⟨so, by simp⟩ e1
      · exact key it ⟨_, .tail _ (.tail _ (.tail _ (.head _)))⟩ e1
      · exact key st ⟨_, .tail _ (.tail _ (.tail _ (.tail _ (.head _))))⟩ e1
    · rcases List.mem_append.mp hp with hp | hp
      · exact key p.1 ⟨p.2, .tail _ (.tail _ (.tail _ (.tail _ (.tail _ (.tail _ (.tail _ hp))))))⟩ e1
      · refine Classical.byContradiction fun hn9 => ?_
        obtain ⟨q', hq', e2⟩ := hok.up.fwd q hq
        refine hn9 ?_
        clear hn9
        exact ap p hp q' hq' (e2.symm.trans e1)
theorem all_T {w : World} {S : Srt} {tl fr : Led} {a : Addr} (h : S.self < a ∧ S.sd < a ∧ S.d < a ∧ AllLt a (objsOf S.infos ++ (tl ++ fr))) : ∀ q ∈ TTl w S tl fr, q.1 < a := by
  refine Classical.byContradiction fun hn9 => ?_
  obtain ⟨h1, h2, h3, h4⟩ := h
  refine hn9 ?_
  clear hn9
  intro q hq
  unfold TTl at hq
  simp only [List.cons_append, List.append_assoc, List.mem_cons] at hq
  rcases hq with rfl | rfl | rfl | hq
  · exact h1
  · exact h2
  · exact h3
  · exact ktn_ltOf h4 q hq
theorem nd_start {w : World} {S : Srt} {tl fr : Led} {ns se it st : Addr} {no so a1 a2 : Obj} (q1 : S.self < st ∧ S.sd < st ∧ S.d < st ∧ AllLt st (objsOf S.infos ++ (tl ++ fr))) (q2 : st < it ∧ S.self < it ∧ S.sd < it ∧ S.d < it ∧ AllLt it (objsOf S.infos ++ (tl ++ fr)))
    (q3 : it < se ∧ st < se ∧ S.self < se ∧ S.sd < se ∧ S.d < se ∧ AllLt se (objsOf S.infos ++ (tl ++ fr))) (q4 : se < ns ∧ it < ns ∧ st < ns ∧ S.self < ns ∧ S.sd < ns ∧ S.d < ns ∧ AllLt ns (objsOf S.infos ++ (tl ++ fr))) :
    NDx (TTl w S tl fr) [(ns, no), (se, so), (it, a1), (st, a2)] := by
  refine ndx_fresh (ndx_fresh (ndx_fresh (ndx_fresh trivial ?_) ?_) ?_) ?_
  · exact all_T q1
  · intro q hq
    rcases List.mem_cons.mp hq with rfl | hq
    · exact q2.1
    · exact all_T q2.2 q hq
  · intro q hq
    rcases List.mem_cons.mp hq with rfl | hq
    · exact q3.1
    · rcases List.mem_cons.mp hq with rfl | hq
      · exact q3.2.1
      · exact all_T q3.2.2 q hq
  · intro q hq
    rcases List.mem_cons.mp hq with rfl | hq
    · exact q4.1
    · rcases List.mem_cons.mp hq with rfl | hq
      · exact q4.2.1
      · rcases List.mem_cons.mp hq with rfl | hq
        · exact q4.2.2.1
        · exact all_T q4.2.2.2 q hq
theorem ok_in {w : World} {S : Srt} {tl fr fr' : Led} {I : Addr} {io : Obj} {ns se it st : Addr} {no so : Obj} {seen : List Str} {c2 c1 : Nat} (h : FcOk w S tl fr fr' [] ns se it st no so [] seen) (hne : ∀ p ∈ fcLed ns se it st no so c2 c1 [] (TTl w S tl fr'), p.1 ≠ I) :
    FcOk w S tl fr fr' [(I, io)] ns se it st no so [] seen := by
  refine ⟨h.up, h.dict, h.set, h.ndS, h.sub, h.inf, ⟨?_, h.nd⟩⟩
  intro q hq
  rcases List.mem_append.mp hq with hq | hq
  · have hq' : q ∈ [(ns, no), (se, so), (it, W.listOf (itVals []).toArray 0), (st, W.listOf (stVals []).toArray 0)] := hq
    rcases List.mem_cons.mp hq' with rfl | hq'
    · exact hne (ns, no) (.head _)
    rcases List.mem_cons.mp hq' with rfl | hq'
    · exact hne (se, so) (.tail _ (.head _))
    rcases List.mem_cons.mp hq' with rfl | hq'
    · exact hne (it, W.listOf (itVals []).toArray c2) (.tail _ (.tail _ (.head _)))
    rcases List.mem_cons.mp hq' with rfl | hq'
    · exact hne (st, W.listOf (stVals []).toArray c1) (.tail _ (.tail _ (.tail _ (.head _))))
    · cases hq'
  · have : q.1 ∈ (TTl w S tl fr').map (·.1) := by rw [TTl_keys h.up]; exact List.mem_map_of_mem hq
    refine Classical.byContradiction fun hn9 => ?_
    obtain ⟨q', hq', e'⟩ := List.mem_map.mp this
    refine hn9 ?_
    clear hn9
    rw [← e']
    exact hne q' (by unfold fcLed; simp [hq'])
theorem ss_names {l : List Info} {x : Str} (h : ssL l x ≠ []) : x ∈ nmL l := by
  unfold ssL at h
  cases q : fnd l x with
  | none => rw [q] at h; exact absurd rfl h
  | some i =>
    have h1 := List.mem_of_find?_eq_some q
    have h2 := List.find?_some q
    simp only [decide_eq_true_eq] at h2
    rw [← h2]
    exact List.mem_map_of_mem h1
end Mine
-- Fc1
open PySem PySem.W PySem.Calls PyProof.Rows
namespace Mine


theorem lines_Fc11 : True := by
  k_with_none
  k_with "k_ne" => (first | with_reducible assumption | exact Ne.symm (by with_reducible assumption) | (refine neN ?_; (try dsimp only); first | with_reducible assumption | exact Ne.symm (by with_reducible assumption) | exact Nat.ne_of_lt (by with_reducible assumption) | exact Nat.ne_of_gt (by with_reducible assumption) | exact nl0 (by with_reducible assumption) | exact ng0 (by with_reducible assumption) | exact nl1 (by with_reducible assumption) | exact ng1 (by with_reducible assumption) | exact nl2 (by with_reducible assumption) | exact ng2 (by with_reducible assumption) | exact nl3 (by with_reducible assumption) | exact ng3 (by with_reducible assumption) | exact nl4 (by with_reducible assumption) | exact ng4 (by with_reducible assumption) | exact nl5 (by with_reducible assumption) | exact ng5 (by with_reducible assumption) | exact nl6 (by with_reducible assumption) | exact ng6 (by with_reducible assumption) | exact nl7 (by with_reducible assumption) | exact ng7 (by with_reducible assumption) | exact nl8 (by with_reducible assumption) | exact ng8 (by with_reducible assumption) | exact nl9 (by with_reducible assumption) | exact ng9 (by with_reducible assumption) | omega))
  k_with "room" => (first | exact room0 (by with_reducible assumption) | exact room1 (by with_reducible assumption) (by decide) | exact room2 (by with_reducible assumption) (by decide) | exact room3 (by with_reducible assumption) (by decide))
  k_with "units" => (first | exact unit0 (by with_reducible assumption) | exact unit1 (by with_reducible assumption) (by decide) | exact unit2 (by with_reducible assumption) (by decide) | exact unit3 (by with_reducible assumption) (by decide))
  k_with "om" => (first | with_reducible assumption | with_reducible exact le_lit (by with_reducible assumption) (by decide) | with_reducible exact add_lit (by with_reducible assumption) (by with_reducible assumption) (by with_reducible assumption) (by decide) | with_reducible exact lt_lel (by with_reducible assumption) (by decide) | with_reducible exact sum_lit (by with_reducible assumption) (by with_reducible assumption) (by decide) | with_reducible exact suc_lit (by with_reducible assumption) (by decide) | with_reducible exact lt_lit (by with_reducible assumption) (by decide) | with_reducible exact le_ltl (by with_reducible assumption) (by decide) | with_reducible exact ige_lit (by with_reducible assumption) (by decide) | with_reducible exact ile_lit (by with_reducible assumption) (by decide) | with_reducible exact ilt_lit (by with_reducible assumption) (by decide) | omega)
  k_with "k_all" => (first | exact allLt_ne (by assumption) | assumption | (intro p9 hp9; refine neN ?_; have h9 := ltN (ktn_ltOf (by first | assumption | exact (show _ ∧  AllLt _ _ by assumption).2 | exact (show _ ∧ _ ∧  AllLt _ _ by assumption).2.2 | exact (show _ ∧ _ ∧ _ ∧  AllLt _ _ by assumption).2.2.2 | exact (show _ ∧ _ ∧ _ ∧ _ ∧  AllLt _ _ by assumption).2.2.2.2 | exact (show _ ∧ _ ∧ _ ∧ _ ∧ _ ∧  AllLt _ _ by assumption).2.2.2.2.2 | exact (show _ ∧ _ ∧ _ ∧ _ ∧ _ ∧ _ ∧  AllLt _ _ by assumption).2.2.2.2.2.2 | exact (show _ ∧ _ ∧ _ ∧ _ ∧ _ ∧ _ ∧ _ ∧  AllLt _ _ by assumption).2.2.2.2.2.2.2 | exact (show _ ∧ _ ∧ _ ∧ _ ∧ _ ∧ _ ∧ _ ∧ _ ∧  AllLt _ _ by assumption).2.2.2.2.2.2.2.2 | exact (show _ ∧ _ ∧ _ ∧ _ ∧ _ ∧ _ ∧ _ ∧ _ ∧ _ ∧  AllLt _ _ by assumption).2.2.2.2.2.2.2.2.2 | exact (show _ ∧ _ ∧ _ ∧ _ ∧ _ ∧ _ ∧ _ ∧ _ ∧ _ ∧ _ ∧  AllLt _ _ by assumption).2.2.2.2.2.2.2.2.2.2) p9 hp9); first | exact Nat.ne_of_lt h9 | exact Nat.ne_of_gt h9 | omega))
  k_with "pyIter ref" => (refine Held.mk ?_)
  k_with "exec For Name Name cons nil" => (k_here; (rename Fr _ _ _ _ => lF'); (with_unfolding_all refine' For_invVF lF' (by exact rfl) (by exact rfl) ?_; k_whole))
  k_with "exec While Constant cons nil" => (refine Held.mk ?_)
  k_with "exec While Name cons cons" => (refine Held.mk ?_)
  trivial

section
variable {prog : Program} {w : World} {A : Around} {E : Value → Shared → Prop} {s : Shared} {env : Env} {h₀ : Heap} {x : Str} {body : List Stmt} {Q : Flow → Shared → Prop}
theorem iterKeysM {d : Addr} {od : Obj} {kvs : List (Str × Value)} {m₀ : Str → Option Value} {news : Led} (Jm : (Str → Option Value) → Nat → (Str → Option Value) → Led → Prop)
    (hh : A.handled = none) (F : Fr h₀ env.locals s.heap m₀) (N : News h₀ env.locals s.heap news) (hl : (d, od) ∈ news) (hd : od.IsDictOf (strKind prog w) kvs) (lo : (d == sysModules) = false)
    (h0 : Jm m₀ 0 m₀ news) (keep : ∀ i m n, Jm m₀ i m n → (d, od) ∈ n)
    (turn : TurnOf prog w A E s env h₀ x body Q kvs.length (fun i v => ∃ k u t, kvs[i]? = some (k, u) ∧ v = .str k t) (Jm m₀)) (done : DoneOf s env h₀ Q kvs.length (Jm m₀)) :
    wpAny (model prog w) A (pyIter (.ref d)) (fun it s₂ => LoopAtV prog w A h₀ env x body Q E it s₂) E s := iterKeys (Jm m₀) hh F N hl hd lo h0 keep turn done
end
theorem lines_Fc12 : True := by
  k_with "truthy ref" => (k_here; k_dflt (first | (refine' truthyNil (by k_asm) (by k_mem) ?_) | (refine' truthyApp (by k_asm) (by k_mem) (by k_extra "om") ?_)))
  k_with "call builtin:list.append" => (k_here; k_dflt (refine' appendL (by k_asm) (by k_asm) (by k_upd) (by k_extra "om") ?_; k_whole); intro h' F' N'; (try k_sweep))
  k_with "call builtin:list.pop" => (k_here; k_dflt (refine' popL (by k_asm) (by k_asm) (by k_upd) (by k_extra "om") ?_; k_whole); intro h' F' N'; (try k_sweep))
  k_with "subscriptTail Name UnaryOp ref int" => (k_here; (with_reducible show wpAny _ _ (subscriptTail _ _ (Value.ref _) (Value.int _ _)) _ _ _); k_dflt (refine' lastApp (by k_asm) (by k_mem) (by k_extra "om") ?_ (by with_unfolding_all rfl)))
  k_with "subscriptTail Name Name ref str" => (k_here; (with_reducible show wpAny _ _ (subscriptTail _ _ (Value.ref _) (Value.str _ _)) _ _ _); k_dflt (refine' kda_item (knd := PySem.strKind _ _) (by k_asm) (by k_mem) (by assumption) (strKind_is _ _ _ _) (by assumption) ?_))
  k_with "setItem ref str" => (k_here; k_dflt (refine' kda_set (knd := PySem.strKind _ _) (by k_asm) (by k_asm) (by k_updF) (by k_asm) (strKind_is _ _ _ _) (by rw [sizeLine_eq]; omega) ?_); intro h' o' F' N' hd'; (try dsimp only at N'))
  k_with "compareOp In str ref" => (k_here; k_dflt (first | (refine' kda_in (knd := PySem.strKind _ _) (by k_asm) (by k_mem) (by assumption) (by assumption) (strKind_is _ _ _ _) _ (by assumption) ?_)))
  k_with "subscriptTail Name Slice ref ref" => (k_here; (with_reducible show wpAny _ _ (subscriptTail _ (PySem.Expr.Slice _ none none _) (Value.ref _) (Value.ref _)) _ _ _); k_dflt (refine' kmk_slice (by k_asm) (by k_asm) (by exact ⟨_, News.get (by k_asm) (by k_mem), rfl, _, rfl⟩) (.int _ _) .none ?_ (by with_unfolding_all rfl) (by intro _; with_unfolding_all rfl) (by rw [sizeLine_eq]; simp only [List.size_toArray]; omega); k_whole); intro D' h' F' N' l1; (try k_lt l1))
  k_with "binaryOp Add ref ref" => (k_here; k_dflt (refine' addK (by k_asm) (by k_asm) (by k_mem) (by k_mem) (by exact addz (by simp only [List.size_toArray]; omega)) ?_; k_whole); intro D' h' F' N' l1; (try k_lt l1))
  k_with "call builtin:iter" => (k_here; (with_reducible show wpAny _ _ (call (Value.builtin "iter") [Value.ref _]) _ _ _); k_dflt (refine' Mw.iter_list (by k_asm) (by k_asm) (by k_mem) ?_; k_whole); intro D' h' F' N' l1; (try k_lt l1))
  k_with "getAttr ref" => (k_here; (with_reducible show wpAny _ _ (getAttr (Value.ref _) (Str.ofString "__next__") true) _ _ _); k_dflt (refine' Mw.mw_attr (by k_asm) (by k_asm) (by k_mem) ?_; k_whole); intro D' h' tk' F' N' l1; (try k_lt l1))
  k_with "call builtin:len" => (k_here; k_dflt (refine' lenL (by k_asm) (by k_mem) (by assumption) (by k_extra "om") ?_))
  k_with "callWith ref" => (k_here; (with_reducible show wpAny _ _ (callWith _ (Value.ref _) [] (backTo _ (starEach [] _)) []) _ _ _); k_dflt (refine' callWithMw (by k_asm) (by k_mem) ?_))
  k_with "k_ne" => (first | with_reducible assumption | exact Ne.symm (by with_reducible assumption) | (refine neN ?_; (try dsimp only); first | with_reducible assumption | exact Ne.symm (by with_reducible assumption) | exact Nat.ne_of_lt (by with_reducible assumption) | exact Nat.ne_of_gt (by with_reducible assumption) | exact nl0 (by with_reducible assumption) | exact ng0 (by with_reducible assumption) | exact nl1 (by with_reducible assumption) | exact ng1 (by with_reducible assumption) | exact nl2 (by with_reducible assumption) | exact ng2 (by with_reducible assumption) | exact nl3 (by with_reducible assumption) | exact ng3 (by with_reducible assumption) | exact nl4 (by with_reducible assumption) | exact ng4 (by with_reducible assumption) | exact nl5 (by with_reducible assumption) | exact ng5 (by with_reducible assumption) | exact nl6 (by with_reducible assumption) | exact ng6 (by with_reducible assumption) | exact nl7 (by with_reducible assumption) | exact ng7 (by with_reducible assumption) | exact nl8 (by with_reducible assumption) | exact ng8 (by with_reducible assumption) | exact nl9 (by with_reducible assumption) | exact ng9 (by with_reducible assumption) | omega))
  k_with "exec Try" => ((have hst9 : Stop 12 := by assumption); clear hst9; refine Held.mk ?_)
  k_with "call ref" => (k_here; (with_reducible show wpAny _ _ (call (Value.ref _) []) _ _ _); k_dflt (first
  | ((have hst9 : Stop 1 := by assumption); refine Held.mk ?_)
  | refine Held.mk ?_))
  k_with "delItem ref str" => (k_here; k_dflt (refine' delK (by k_asm) (by k_asm) (by k_updF) (by assumption) (by assumption) (by rw [sizeLine_eq]; omega) ?_); intro h' o' F' N' hd'; (try dsimp only at N'))
  k_with "exec If" => ((have hst9 : Stop 0 := by assumption); clear hst9; refine Held.mk ?_)
  k_with "k_mem" => (first | exact List.Mem.head _ | (with_reducible assumption) | exact List.mem_append_right _ (by with_reducible assumption) | (refine' List.Mem.tail _ ?_; k_mem))
  trivial

set_option pp.maxSteps 3000 in
theorem fc (w : World) (mean : ExcName → Option Value) (mg mb : Str → Option Value) (S : Srt) (tl : Led) (hS : S.Ok w) (hl : S.infos.length ≤ 900) (hcl : ∀ x y, y ∈ ssL S.infos x → y ∈ nmL S.infos) :
    TellG w mean mg mb 4 24 242 [.ref S.self] (S.led w tl) (FcPost w S tl) (fun _ => False) := by


  unfold TellG
  k_fill
  intro dp un gd cn cs a ccd cl outer A₀ base h₀ L m
  intro s Q E B F X N T XB TB D hk hdp hun hret hexc
  refine wpAny_call ?_
  k_dflt (refine' enterC (ce := envX cn cs L a ccd cl) rfl hk B F X N T XB TB D ?kA ?k6 ?k7 ?k8 ?k9 ?kB ?_ ?c2 ?c3 ?c4 ?c5; (case kA => exact rfl); (case k6 => k_is); (case k7 => k_is); (case k8 => ktr_room); (case k9 => exact BindsTo.of_eq rfl); (case kB => exact locs rfl); (case c2 => exact rfl); (case c3 => exact rfl); (case c4 => exact rfl); (case c5 => decide); k_whole; intro g' L' h' FG' F' N' B' X' T' D'; (try dsimp only); (try k_fold))
  refine wpAny_noRaise ?_
  rename Fr h₀ _ _ _ => FG0
  rename Fr _ _ _ _ => F90
  have F91 := fr_map F90 (look_one (Str.ofString "self") (.ref S.self))
  clear F90
  refine Classical.byContradiction fun hn9 => ?_
  obtain ⟨fr, hfrs, hfrk, hfrg, F1, N1, st1, ap1⟩ := swap B' F91 N' D'
  refine hn9 ?_
  clear hn9
  have X1 := XB.keeps st1
  have T1 := TB.keeps st1
  clear F91 N'
  simp only [Srt.led, List.cons_append, List.append_assoc] at N1
  k_steps
  refine Held.of ?_
  rename Fr _ _ _ _ => F2
  rename News _ _ _ _ => N2

  rename_i st h7 q1 h6 tk6 it h5 q2 h4 se h3 led hi0 hset q3 h2 ns h1 no lo hdict fs0 hi1 fi0 q4 hh
  have N3 : News (TI.gone g' (frs (envX cn cs L a ccd cl :: outer))) L' hh (fcLed ns se it st no { cls := Value.type "set", data := Data.set #[] 0 (SetTable.fresh 0 0 led) } 0 0 [] (TTl w S tl fr)) := by
    unfold fcLed TTl
    simpa [entObjs, itVals, stVals] using N2
  have hnd0 : NDx (TTl w S tl fr) [(ns, no), (se, { cls := Value.type "set", data := Data.set #[] 0 (SetTable.fresh 0 0 led) }), (it, W.listOf (itVals []).toArray 0), (st, W.listOf (stVals []).toArray 0)] := nd_start q1 q2 q3 q4
  clear hi0 hi1 fs0 fi0 N2 q1 q2 q3 q4
  have hok0 : FcOk w S tl fr fr [] ns se it st no { cls := Value.type "set", data := Data.set #[] 0 (SetTable.fresh 0 0 led) } [] [] := ⟨TI.SameUp.refl _, hdict, by simpa using hset, by simp, by simp, by simp, hnd0⟩
  k_dflt (refine iterKeysM (JF w S tl fr ns se it st) rfl F2 N3 (by simp [fcLed, TTl_d]) hS.dict hS.low ?h0 ?keep ?turn ?done)
  case h0 => exact ⟨[], [], fr, no, _, 0, 0, none, hok0, dinv_init _, (fun k x hk => absurd hk (Nat.not_lt_zero _)), (by
    funext y
    by_cases hy : y = Str.ofString "node"
    · subst hy; rfl
    · rw [if_neg hy]), rfl⟩
  case keep =>
    intro i m n hp93
    refine Classical.byContradiction fun hn9 => ?_
    obtain ⟨seen, fin, fr', no, so, c2, c1, u, _, _, _, rfl, rfl⟩ := hp93
    refine hn9 ?_
    clear hn9
    simp [fcLed, TTl_d]
  case done =>
    intro m₁ news₁ h tk hp94 F₁ N₁
    refine Classical.byContradiction fun hn9 => ?_
    obtain ⟨seen, fin, fr', no1, so1, c2, c1, u, hok, hdi, hpast, rfl, rfl⟩ := hp94
    refine hn9 ?_
    clear hn9
    clear F2 N3 hok0 hnd0 hdict hset
    have hnr : ¬ HasRing (ssL S.infos) := dinv_none hdi (fun y hy => by
      refine Classical.byContradiction fun hn9 => ?_
      obtain ⟨k, hk⟩ := List.getElem?_of_mem hy
      refine hn9 ?_
      clear hn9
      refine hpast k y ?_ hk
      have h1 := (List.getElem?_eq_some_iff.mp hk).1
      simpa [nmL] using h1) (fun y hy => ss_names hy)
    k_steps
    rename Fr _ _ _ _ => F2
    rename News _ _ _ _ => N2
    obtain ⟨g2, T2, F2, N2⟩ := back_to (x := []) hfrk hfrg ap1 hok.up F2 (cb_drop N2 (fun q (hq : q ∈ TTl w S tl fr') => by unfold fcLed; exact .tail _ (.tail _ (.tail _ (.tail _ hq))))) (by simp)
    exact leaveS_r F2 N2 T2 (fun h₀' t f n b x tp d => hret _ _ _ _ _ (.inl ⟨rfl, hnr, rfl⟩) t f n b x tp d)
  case turn =>
    intro i v m₁ news₁ h tk I io hi hp99 hp910 hne F₁ N₁
    refine Classical.byContradiction fun hn9 => ?_
    obtain ⟨x, u9, tx, hx, rfl⟩ := hp99
    obtain ⟨seen, fin, fr', no, so, c2, c1, u, hok, hdi, hpast, rfl, rfl⟩ := hp910
    refine hn9 ?_
    clear hn9
    clear F2 N3 hok0 hnd0 hdict hset
    rw [ifif] at F₁
    have hxn : x ∈ nmL S.infos := by
      have := List.mem_of_getElem? hx
      refine Classical.byContradiction fun hn9 => ?_
      obtain ⟨i9, hi9, e9⟩ := List.mem_map.mp this
      refine hn9 ?_
      clear hn9
      exact List.mem_map.mpr ⟨i9, hi9, congrArg Prod.fst e9⟩
    have hnx : (nmL S.infos)[i]? = some x := by
      unfold nmL
      rw [List.getElem?_map] at hx ⊢
      cases q : S.infos[i]? with
      | none => rw [q] at hx; cases hx
      | some i9 => rw [q] at hx; exact congrArg (Option.map Prod.fst) hx
    have hnd1 := (ok_in (io := io) hok hne).nd
    have hdict := hok.dict
    have hset := hok.set
    have hsz : seen.length ≤ 900 := by
      have := len_le_of_sub hok.ndS hok.sub
      unfold nmL at this
      rw [List.length_map] at this
      omega
    have hnd2 := ndx_keysT (TTl_keys hok.up) hnd1
    k_dflt (refine ndx_out5 hnd2 ?_)
    intro e01 e02 e03 e04 eR0 e12 e13 e14 eR1 e23 e24 eR2 e34 eR3 eR4 eE
    clear hnd2
    unfold fcLed at N₁
    simp only [entObjs, List.nil_append] at N₁
    by_cases hin : x ∈ seen
    · have hin' := decide_eq_true hin
      k_steps
      refine TurnEnd.fin (by first | exact .inl rfl | exact .inr rfl) (by k_asm) (by k_asm) hne ⟨seen, fin, fr', no, so, c2, c1, _, hok, hdi, ?_, rfl, by simp [fcLed, entObjs]⟩
      intro k y hk hy
      by_cases q : k = i
      · subst q; rw [hnx] at hy; cases hy; exact hin
      · exact hpast k y (by omega) hy
    · have hin' := decide_eq_false hin
      k_steps
      refine Held.of ?_
      rename Fr _ _ _ _ => F2
      rename News _ _ _ _ => N2
      k_dflt (refine While_M (fun m₀ => JA w S tl fr ns se it st I io m₀ seen x) (leftOf (ssL S.infos) (nmL S.infos) seen []) F2 N2 ?j0 ?turnA)
      case j0 => exact ⟨seen, fin, fr', no, so, c2, c1, [], x, tx, ok_in hok hne, dinv_any hdi, hxn, (fun _ => hin), rfl, fun y h => h, .inr rfl, rfl, rfl⟩
      case turnA =>
        intro kA m₁ news₁ h₁ tk₁ F₃ N₃ hp97
        refine Classical.byContradiction fun hn9 => ?_
        obtain ⟨seen1, fin1, fr1, no1, so1, c21, c11, ents, y, ty, hok1, hdi1, hyn, hye, hk1, hse1, hx1, rfl, rfl⟩ := hp97
        refine hn9 ?_
        clear hn9
        clear F2 N2 hnd1 hdict hset hok hdi hin hin' e01 e02 e03 e04 e12 e13 e14 e23 e24 e34 eR0 eR1 eR2 eR3 eR4
        unfold fcLed at N₃
        have hdict := hok1.dict
        have hset := hok1.set
        have hsz : seen1.length ≤ 900 := by
          have := len_le_of_sub hok1.ndS hok1.sub
          unfold nmL at this
          rw [List.length_map] at this
          omega
        have hnd2 := ndx_keysT (TTl_keys hok1.up) hok1.nd
        k_dflt (refine ndx_out5 hnd2 ?_)
        intro e01 e02 e03 e04 eR0 e12 e13 e14 eR1 e23 e24 eR2 e34 eR3 eR4 eE
        clear hnd2
        have hSd := hS.dict
        have hel : ents.length ≤ 900 := by
          have h1 : ((stkOf ents).map (·.1)).length ≤ seen1.length := len_le_of_sub hdi1.ndS (fun z hz => (hdi1.mem z).mpr (.inr hz))
          simp [stkOf] at h1
          omega
        have hil := itVals_len ents
        have hstl := stVals_len ents
        have hnl := n2kv_len ents
        have hmd := TTl_d (w := w) (S := S) (tl := tl) (fr := fr1)
        have hstop : Stop 0 := .mk 0
        k_steps
        refine Held.of ?_
        clear hstop
        rename Fr _ _ _ _ => F4
        refine cutM F4 (fun m₀ h₀ L f s' => MidA w S tl fr ns se it st I io m₀ seen x kA h₀ L { heap := h, gens := s.gens, drawn := s.drawn, toks := tk, os := s.os } f s') ?mid ?rest
        case rest =>
          rintro f s9 (⟨rfl, h9, tk9, m9, n9, kb, rfl, F9, N9, hJB⟩ | ⟨a9, vs9, c9, h9, tk9, m9, fr9, rfl, rfl, hv9, hv9', hr9, hu9, F9, N9, ha9⟩)
          · dsimp only
            refine Classical.byContradiction fun hn9 => ?_
            obtain ⟨seen2, fin2, fr2, no2, so2, c22, c12, ents2, u2, hok2, hdi2, rfl, hk2, hse2, hx2, rfl, rfl⟩ := hJB
            refine hn9 ?_
            clear hn9
            k_steps
            refine Held.of ?_
            rename Fr _ _ _ _ => F10
            rename News _ _ _ _ => N10
            k_dflt (refine While_M (fun m₀ => JB w S tl fr ns se it st I io m₀ seen x kA) ents2.length F10 N10 ⟨seen2, fin2, fr2, no2, so2, c22, c12, ents2, u2, hok2, hdi2, rfl, hk2, hse2, hx2, rfl, rfl⟩ ?turnB)
            case turnB =>
              intro kB m₁ news₁ h₁ tk₁ F₃ N₃ hp97
              refine Classical.byContradiction fun hn9 => ?_
              obtain ⟨seen3, fin3, fr3, no3, so3, c23, c13, ents3, u3, hok3, hdi3, hkB, hk3, hse3, hx3, rfl, rfl⟩ := hp97
              refine hn9 ?_
              clear hn9
              clear F10 N10 hdict hset hSd
              unfold fcLed at N₃
              cases ents3 with
              | nil =>
                simp only [entObjs, itVals, stVals, List.nil_append] at N₃
                k_steps
                dsimp only [WhileStep2]
                k_steps
                rename Fr _ _ _ _ => F12
                rename News _ _ _ _ => N12
                refine TurnEnd.fin (news' := fcLed ns se it st no3 so3 c23 c13 [] (TTl w S tl fr3)) (.inl rfl) F12 N12 (ok_off hok3) ⟨seen3, fin3, fr3, no3, so3, c23, c13, u3, ok_out hok3, dinv_any hdi3, ?_, rfl, rfl⟩
                intro k y hk hy
                by_cases q : k = i
                · subst q; rw [hnx] at hy; cases hy; exact hx3
                · exact hse3 y (hpast k y (by omega) hy)
              | cons e r =>
                simp only [entObjs, itVals, stVals, List.cons_append] at N₃
                have hdict := hok3.dict
                have hset := hok3.set
                have hnd3 := ndx_keysT (TTl_keys hok3.up) hok3.nd
                k_dflt (refine ndx_out7 hnd3 ?_)
                intro g01 g02 g03 g04 g05 g06 gR0 g12 g13 g14 g15 g16 gR1 g23 g24 g25 g26 gR2 g34 g35 g36 gR3 g45 g46 gR4 g56 gR5 gR6 gE
                clear hnd3
                have her : r.length ≤ 900 := by
                  have h1 : ((stkOf (e :: r)).map (·.1)).length ≤ seen3.length := len_le_of_sub hdi3.ndS (fun z hz => (hdi3.mem z).mpr (.inr hz))
                  have h2 := len_le_of_sub hok3.ndS hok3.sub
                  simp [stkOf, nmL] at h1 h2
                  omega
                have hil := itVals_len r
                have hstl := stVals_len r
                have hnl := n2kv_len r
                have hms := TTl_s (w := w) (tl := tl) (fr := fr3) (hok3.inf e (.head _))
                have hms2 : (e.i.sl, W.listOf (strValues e.i.ss).toArray e.i.sc) ∈ entObjs r ++ TTl w S tl fr3 := List.mem_append_right _ hms
                have hst9 : Stop 12 := .mk 12
                k_steps
                refine Held.of ?_
                clear hst9
                k_dflt (refine tryM F₃ (fun m₀ h₀ L f s' => MidT [(I, io), (ns, no3), (se, so3), (it, W.listOf (itVals r ++ [Value.ref e.wa]).toArray c23), (st, W.listOf (stVals r ++ [Value.str e.i.name e.tn]).toArray c13)] e (entObjs r ++ TTl w S tl fr3) m₀ h₀ L { heap := h, gens := s.gens, drawn := s.drawn, toks := tk, os := s.os } f s') (fun m₀ h₀ L f s' => ExcT [(I, io), (ns, no3), (se, so3), (it, W.listOf (itVals r ++ [Value.ref e.wa]).toArray c23), (st, W.listOf (stVals r ++ [Value.str e.i.name e.tn]).toArray c13)] e u3 (entObjs r ++ TTl w S tl fr3) m₀ h₀ L { heap := h, gens := s.gens, drawn := s.drawn, toks := tk, os := s.os } f s') ?t1 ?t2 ?t3)
                case t1 =>
                  by_cases hpos : e.pos < e.i.ss.length
                  · have hx : (strValues e.i.ss)[e.pos]? = some (.str (e.i.ss[e.pos]).1 (e.i.ss[e.pos]).2) := by
                      unfold strValues; rw [List.getElem?_map, List.getElem?_eq_getElem hpos]; rfl
                    k_steps
                    refine Held.of ?_
                    k_dflt (refine' mwItem ?F ?N ?w ?U ?l ?itm ?_)
                    case F => k_asm
                    case N => k_asm
                    case w => k_mem
                    case U => k_upd
                    case l => k_mem
                    case itm => assumption
                    intro h' F' N'
                    k_steps
                    rename Fr _ _ _ _ => F13
                    rename News _ _ _ _ => N13
                    rw [ifif] at F13
                    exact ⟨rfl, _, _, _, _, rfl, List.getElem?_eq_getElem hpos, F13, N13⟩
                  · have hx : (strValues e.i.ss)[e.pos]? = none := by
                      unfold strValues; rw [List.getElem?_map, List.getElem?_eq_none (by omega)]; rfl
                    k_steps
                    refine Held.of ?_
                    k_dflt (refine' mwEnd (news' := [(I, io), (ns, no3), (se, so3), (it, W.listOf (itVals r ++ [Value.ref e.wa]).toArray c23), (st, W.listOf (stVals r ++ [Value.str e.i.name e.tn]).toArray c13)] ++ (entObjs r ++ TTl w S tl fr3)) ?hh ?F ?N ?w ?hi ?l ?itm ?sub ?_)
                    case hh => rfl
                    case F => k_asm
                    case N => k_asm
                    case w => k_mem
                    case hi => k_mem
                    case l => k_mem
                    case itm => assumption
                    case sub =>
                      intro p hp
                      rcases List.mem_append.mp hp with hp | hp
                      · simp only [List.mem_cons, List.not_mem_nil, or_false] at hp
                        rcases hp with rfl | rfl | rfl | rfl | rfl
                        · exact ⟨by simp, Ne.symm g06⟩
                        · exact ⟨by simp, Ne.symm g16⟩
                        · exact ⟨by simp, Ne.symm g26⟩
                        · exact ⟨by simp, Ne.symm g36⟩
                        · exact ⟨by simp, Ne.symm g46⟩
                      · exact ⟨by simp only [List.mem_cons]; simp only [hp, or_true], gR6 p hp⟩
                    intro h₂ h₃ e' F' N' hexc'
                    exact ⟨e', h₂, h₃, _, rfl, rfl, List.getElem?_eq_none (by omega), F', N', hexc'⟩
                case t2 =>
                  intro f s₂ hp92
                  refine Classical.byContradiction fun hn9 => ?_
                  obtain ⟨rfl, h9, tk9, x9, t9, rfl, hget, F13, N13⟩ := hp92
                  refine hn9 ?_
                  clear hn9
                  dsimp only [WhileStep2]
                  k_steps
                  exact stepA_item hS hcl hok3 hdi3 hget hk3 hse3 hx3 F13 N13
                case t3 =>
                  intro v s₂ hp92
                  refine Classical.byContradiction fun hn9 => ?_
                  obtain ⟨e', h9, h10, tk9, rfl, rfl, hget, F13, N13, hexc'⟩ := hp92
                  refine hn9 ?_
                  clear hn9
                  refine TLg.noted_newA (l := envX cn cs L a ccd cl :: outer) (new := [(I, io), (ns, no3), (se, so3), (it, W.listOf (itVals r ++ [Value.ref e.wa]).toArray c23), (st, W.listOf (stVals r ++ [Value.str e.i.name e.tn]).toArray c13)] ++ (entObjs r ++ S.led w tl)) rfl (hfrs.up hok3.up) hexc' F13 (cb_drop N13 (fun q hq => by simpa [TTl] using hq)) (hap_new hok3 ap1 N13) (fun h11 fr4 SU4 Fs4 H => ?_)
                  refine H.land (fun h12 H2 => ?_)
                  refine TT.clause_hitTN H2 T1 (k := fun h13 F14 N14 => ?_)
                  have N15 : News (TI.gone g' (frs (envX cn cs L a ccd cl :: outer))) L' h13 ((I, io) :: (ns, no3) :: (se, so3) :: (it, W.listOf (itVals r ++ [Value.ref e.wa]).toArray c23) :: (st, W.listOf (stVals r ++ [Value.str e.i.name e.tn]).toArray c13) :: (entObjs r ++ TTl w S tl fr4)) :=
                    cb_drop N14 (fun q hq => by simpa [TTl] using hq)
                  clear N14 F₃ N₃ H H2 g01 g02 g03 g04 g05 g06 g12 g13 g14 g15 g16 g23 g24 g25 g26 g34 g35 g36 g45 g46 g56 gR0 gR1 gR2 gR3 gR4 gR5 gR6 gE
                  have hnd5 := ndx_keysT (TTl_keys (hok3.up.trans SU4)) (ndx_sub (l' := [(I, io), (ns, no3), (se, so3), (it, W.listOf (itVals (e :: r)).toArray 0), (st, W.listOf (stVals (e :: r)).toArray 0)] ++ entObjs r) hok3.nd (by
                    exact .cons₂ _ (.cons₂ _ (.cons₂ _ (.cons₂ _ (.cons₂ _ (.cons _ (.cons _ (List.Sublist.refl _)))))))))
                  k_dflt (refine ndx_out5 hnd5 ?_)
                  intro g01 g02 g03 g04 gR0 g12 g13 g14 gR1 g23 g24 gR2 g34 gR3 gR4 gE
                  clear hnd5
                  have hvd : (valueAt (n2kv (e :: r)) e.i.name).isSome = true := by
                    rw [valueAt_some_iff, n2kv_keys, List.mem_reverse]; simp [stkOf]
                  have hnl2 : (n2kv (e :: r)).length = r.length + 1 := n2kv_len (e :: r)
                  k_steps
                  exact stepB_end hS hok3 SU4 hdi3 hget hk3 hse3 hx3 (by assumption) hkB (by k_asm) (by k_asm)
          · dsimp only [WhileStep2, TurnEnd]
            refine Classical.byContradiction fun hn9 => ?_
            obtain ⟨g2, T2, F2, N2⟩ := back_to (x := [(a9, W.listOf vs9.toArray c9)]) hfrk hfrg ap1 hu9 F9 N9 (by simpa using ha9)
            refine hn9 ?_
            clear hn9
            exact leaveS_r F2 N2 T2 (fun h₀' t f n b x tp d => hret _ _ _ _ _ (.inr ⟨a9, vs9, c9, rfl, hv9, hv9', hr9, rfl⟩) t f n b x tp d)
        case mid =>
          by_cases hin : y ∈ seen1
          · have hin' := decide_eq_true hin
            by_cases hst : y ∈ (stkOf ents).map (·.1)
            · have hst' : (valueAt (n2kv ents) y).isSome = true := by
                rw [valueAt_some_iff, n2kv_keys, List.mem_reverse]; exact hst
              refine Classical.byContradiction fun hn9 => ?_
              obtain ⟨v, hv⟩ := Option.isSome_iff_exists.mp hst'
              refine hn9 ?_
              clear hn9
              refine Classical.byContradiction fun hn9 => ?_
              obtain ⟨j, tj, rfl, hj⟩ := n2kv_val hv
              refine hn9 ?_
              clear hn9
              k_steps
              exact midA_ring hok1 hdi1 hst (by omega) (by assumption) (by k_asm) (by k_asm)
            · have hst' : (valueAt (n2kv ents) y).isSome = false := by
                rw [Bool.eq_false_iff, ne_eq, valueAt_some_iff, n2kv_keys, List.mem_reverse]; exact hst
              k_steps
              exact midA_old hok1 hdi1 hst hin hk1 hse1 hx1 (by k_asm) (by k_asm)
          · have hin' := decide_eq_false hin
            have hval : valueAt (n2kv ents) y = none := by
              have hns : y ∉ (stkOf ents).map (·.1) := fun q => hin ((hdi1.mem y).mpr (.inr q))
              cases q : valueAt (n2kv ents) y with
              | none => rfl
              | some v =>
                exfalso
                have : (valueAt (n2kv ents) y).isSome = true := by rw [q]; rfl
                rw [valueAt_some_iff, n2kv_keys, List.mem_reverse] at this
                exact hns this
            refine Classical.byContradiction fun hn9 => ?_
            obtain ⟨iy, hiy, hny, hvy, hsy⟩ := info_of hS hyn
            refine hn9 ?_
            clear hn9
            have hmi := TTl_i (w := w) (tl := tl) (fr := fr1) hiy
            have hms := TTl_s (w := w) (tl := tl) (fr := fr1) hiy
            have hmx := TTl_dx (w := w) (tl := tl) (fr := fr1) hiy
            subst hny
            k_steps
            exact midA_push hok1 hdi1 hin hiy hS.nd hval hk1 hse1 hx1 (by assumption) rfl (by assumption) (by assumption) (by assumption) (by k_asm) (by k_asm)
end Mine
-- Prep
open PySem PySem.W PySem.Calls PyProof.Rows
namespace Mine


theorem lines_Prep1 : True := by
  k_with_none
  k_with "k_ne" => (first | with_reducible assumption | exact Ne.symm (by with_reducible assumption) | (refine neN ?_; (try dsimp only); first | with_reducible assumption | exact Ne.symm (by with_reducible assumption) | exact Nat.ne_of_lt (by with_reducible assumption) | exact Nat.ne_of_gt (by with_reducible assumption) | exact nl0 (by with_reducible assumption) | exact ng0 (by with_reducible assumption) | exact nl1 (by with_reducible assumption) | exact ng1 (by with_reducible assumption) | exact nl2 (by with_reducible assumption) | exact ng2 (by with_reducible assumption) | exact nl3 (by with_reducible assumption) | exact ng3 (by with_reducible assumption) | exact nl4 (by with_reducible assumption) | exact ng4 (by with_reducible assumption) | exact nl5 (by with_reducible assumption) | exact ng5 (by with_reducible assumption) | exact nl6 (by with_reducible assumption) | exact ng6 (by with_reducible assumption) | exact nl7 (by with_reducible assumption) | exact ng7 (by with_reducible assumption) | exact nl8 (by with_reducible assumption) | exact ng8 (by with_reducible assumption) | exact nl9 (by with_reducible assumption) | exact ng9 (by with_reducible assumption) | omega))
  k_with "room" => (first | exact room0 (by with_reducible assumption) | exact room1 (by with_reducible assumption) (by decide) | exact room2 (by with_reducible assumption) (by decide) | exact room3 (by with_reducible assumption) (by decide))
  k_with "units" => (first | exact unit0 (by with_reducible assumption) | exact unit1 (by with_reducible assumption) (by decide) | exact unit2 (by with_reducible assumption) (by decide) | exact unit3 (by with_reducible assumption) (by decide))
  k_with "om" => (first | with_reducible assumption | with_reducible exact le_lit (by with_reducible assumption) (by decide) | with_reducible exact add_lit (by with_reducible assumption) (by with_reducible assumption) (by with_reducible assumption) (by decide) | with_reducible exact lt_lel (by with_reducible assumption) (by decide) | with_reducible exact sum_lit (by with_reducible assumption) (by with_reducible assumption) (by decide) | with_reducible exact suc_lit (by with_reducible assumption) (by decide) | with_reducible exact lt_lit (by with_reducible assumption) (by decide) | with_reducible exact le_ltl (by with_reducible assumption) (by decide) | with_reducible exact ige_lit (by with_reducible assumption) (by decide) | with_reducible exact ile_lit (by with_reducible assumption) (by decide) | with_reducible exact ilt_lit (by with_reducible assumption) (by decide) | omega)
  k_with "execs cons" => (k_here; k_fold)
  k_with "execs cons" => (k_here; (with_reducible show wpAny _ _ _ _ _ (Shared.mk _ _ _ (_ + _) _)); refine toks_all ?_; intro tk; (try dsimp only))
  k_with "execs nil" => (k_here; (with_reducible show wpAny _ _ _ _ _ (Shared.mk _ _ _ (_ + _) _)); refine toks_all ?_; intro tk; (try dsimp only))
  k_with "k_all" => (first | exact allLt_ne (by assumption) | assumption | (intro p9 hp9; refine neN ?_; have h9 := ltN (ktn_ltOf (by first | assumption | exact (show _ ∧  AllLt _ _ by assumption).2 | exact (show _ ∧ _ ∧  AllLt _ _ by assumption).2.2 | exact (show _ ∧ _ ∧ _ ∧  AllLt _ _ by assumption).2.2.2 | exact (show _ ∧ _ ∧ _ ∧ _ ∧  AllLt _ _ by assumption).2.2.2.2 | exact (show _ ∧ _ ∧ _ ∧ _ ∧ _ ∧  AllLt _ _ by assumption).2.2.2.2.2 | exact (show _ ∧ _ ∧ _ ∧ _ ∧ _ ∧ _ ∧  AllLt _ _ by assumption).2.2.2.2.2.2 | exact (show _ ∧ _ ∧ _ ∧ _ ∧ _ ∧ _ ∧ _ ∧  AllLt _ _ by assumption).2.2.2.2.2.2.2 | exact (show _ ∧ _ ∧ _ ∧ _ ∧ _ ∧ _ ∧ _ ∧ _ ∧  AllLt _ _ by assumption).2.2.2.2.2.2.2.2 | exact (show _ ∧ _ ∧ _ ∧ _ ∧ _ ∧ _ ∧ _ ∧ _ ∧ _ ∧  AllLt _ _ by assumption).2.2.2.2.2.2.2.2.2 | exact (show _ ∧ _ ∧ _ ∧ _ ∧ _ ∧ _ ∧ _ ∧ _ ∧ _ ∧ _ ∧  AllLt _ _ by assumption).2.2.2.2.2.2.2.2.2.2) p9 hp9); first | exact Nat.ne_of_lt h9 | exact Nat.ne_of_gt h9 | omega))
  k_with "pyIter ref" => (refine Held.mk ?_)
  k_with "call ref" => (k_here; (with_reducible show wpAny _ _ (call (Value.ref 242) _) _ _ _); refine Held.mk ?_)
  k_with "eval ListComp" => (k_here; k_dflt (refine ListComp_GT (F₀ := by k_asm) (by with_unfolding_all rfl) (by decide) (by rfl) (by decide) (by rfl) ?_))
  k_with "getMethod ref" => (k_here; (with_reducible show wpAny _ _ (getMethod (Value.ref _) (Str.ofString "values") _) _ _ _); k_dflt (refine' methValues (by k_asm) (by k_mem) (by assumption) ?_))
  k_with "call builtin:dict.values" => (k_here; k_dflt (refine' callValues (by k_asm) (by k_asm) (by k_mem) (by assumption) (by assumption) ?_; k_whole); intro D' h' F' N' l1; (try k_lt l1))
  k_with "k_mem" => (first | exact List.Mem.head _ | (with_reducible assumption) | exact (show _ ∈ _ from by with_reducible assumption) | exact List.mem_append_right _ (by with_reducible assumption) | (refine' List.Mem.tail _ ?_; k_mem))
  k_with "getAttr ref" => ((have hst9 : Stop 3 := by assumption); refine Held.mk ?_)
  k_with "k_ne" => (first | with_reducible assumption | exact Ne.symm (by with_reducible assumption) | (refine neN ?_; (try dsimp only); first | with_reducible assumption | exact Ne.symm (by with_reducible assumption) | exact Nat.ne_of_lt (by with_reducible assumption) | exact Nat.ne_of_gt (by with_reducible assumption) | exact nl0 (by with_reducible assumption) | exact ng0 (by with_reducible assumption) | exact nl1 (by with_reducible assumption) | exact ng1 (by with_reducible assumption) | exact nl2 (by with_reducible assumption) | exact ng2 (by with_reducible assumption) | exact nl3 (by with_reducible assumption) | exact ng3 (by with_reducible assumption) | exact nl4 (by with_reducible assumption) | exact ng4 (by with_reducible assumption) | exact nl5 (by with_reducible assumption) | exact ng5 (by with_reducible assumption) | exact nl6 (by with_reducible assumption) | exact ng6 (by with_reducible assumption) | exact nl7 (by with_reducible assumption) | exact ng7 (by with_reducible assumption) | exact nl8 (by with_reducible assumption) | exact ng8 (by with_reducible assumption) | exact nl9 (by with_reducible assumption) | exact ng9 (by with_reducible assumption) | omega))
  trivial

noncomputable def readyOf (l : List Info) : List (Str × Tok) := (l.filter (fun j => j.np == 0)).map (fun j => (j.name, j.nt))
theorem lines_Prep2 : True := by
  k_with "truthy ref" => (k_here; k_dflt (refine' truthyL (by k_asm) (by k_mem) (by k_extra "om") ?_))
  trivial

set_option pp.maxSteps 3000 in
theorem prep (w : World) (mean : ExcName → Option Value) (mg mb : Str → Option Value) (S : Srt) (tl : Led) (hS : S.Ok w) (hN : ND (S.led w tl)) (hl : S.infos.length ≤ 900) (hcl : ∀ x y, y ∈ ssL S.infos x → y ∈ nmL S.infos) (hrv : S.rv = .none) :
    TellG w mean mg mb 6 40 207 [.ref S.self] (S.led w tl)
      (fun v n' => v = .none ∧ ¬ HasRing (ssL S.infos) ∧ ∃ D c, n' = ({ S with rv := .ref D } : Srt).led w ((D, W.listOf (strValues (readyOf S.infos)).toArray c) :: tl) ∧ ND n')
      (fun n' => HasRing (ssL S.infos) ∧ ∃ D c, (∀ p ∈ ({ S with rv := .ref D } : Srt).led w ((D, W.listOf (strValues (readyOf S.infos)).toArray c) :: tl), p ∈ n') ∧ ND (({ S with rv := .ref D } : Srt).led w ((D, W.listOf (strValues (readyOf S.infos)).toArray c) :: tl))) := by
  unfold TellG
  k_fill
  intro dp un gd cn cs a ccd cl outer A₀ base h₀ L m
  intro s Q E B F X N T XB TB D hk hdp hun hret hexc
  refine wpAny_call ?_
  k_dflt (refine' enterC (ce := envX cn cs L a ccd cl) rfl hk B F X N T XB TB D ?kA ?k6 ?k7 ?k8 ?k9 ?kB ?_ ?c2 ?c3 ?c4 ?c5; (case kA => exact rfl); (case k6 => k_is); (case k7 => k_is); (case k8 => ktr_room); (case k9 => exact BindsTo.of_eq rfl); (case kB => exact locs rfl); (case c2 => exact rfl); (case c3 => exact rfl); (case c4 => exact rfl); (case c5 => decide); k_whole; intro g' L' h' FG' F' N' B' X' T' D'; (try dsimp only); (try k_fold))
  simp only [Srt.led, hrv] at N'
  have hSd := hS.dict
  have hSl := hS.low
  k_steps
  refine Held.of ?_
  rename Fr _ _ _ _ => F2
  rename News _ _ _ _ => N2
  rename _ ∧ _ ∧ _ ∧ AllLt _ _ => hlt
  k_dflt (refine srcValuesM (fun L0 i ys nw => nw = L0 ∧ ys = strValues (((S.infos.take i).filter (fun j => j.np == 0)).map (fun j => (j.name, j.nt)))) rfl F2 N2 (.head _) (.tail _ (.tail _ (.tail _ (.head _)))) hSd ?hsz ⟨rfl, rfl⟩ ?step ?fin)
  case hsz => simp only [List.length_map]; rw [sizeLine_eq]; omega
  case step =>
    intro i v I oI C oC D m₂ h tk E' ys nw hi hp914 hp915 hns hmx F3 N3 hoff hne
    refine Classical.byContradiction fun hn9 => ?_
    obtain ⟨k, hk⟩ := hp914
    obtain ⟨rfl, rfl⟩ := hp915
    refine hn9 ?_
    clear hn9
    obtain ⟨j, hj, hjv⟩ : ∃ j, S.infos[i]? = some j ∧ v = .ref j.ia := by
      rw [List.getElem?_map] at hk
      cases q : S.infos[i]? with
      | none => rw [q] at hk; cases hk
      | some j => rw [q] at hk; cases hk; exact ⟨j, rfl, rfl⟩
    subst hjv
    have hjm : j ∈ S.infos := List.mem_of_getElem? hj
    have hm1 : (j.ia, infoO j.dx (.str j.name j.nt) (.int j.np j.npt) j.sl) ∈ objsOf S.infos ++ tl := List.mem_append_left _ (mem_objs hjm (by simp [Info.objs]))
    have hm2 : (j.dx, dictOf [] 0) ∈ objsOf S.infos ++ tl := List.mem_append_left _ (mem_objs hjm (by simp [Info.objs]))
    have hI : InstAt h j.ia (infoO j.dx (.str j.name j.nt) (.int j.np j.npt) j.sl) 155 (some (dictOf [] 0)) :=
      InstAt.of_news N3 (.tail _ (.tail _ (.tail _ (.tail _ (.tail _ (.tail _ (.tail _ hm1))))))) (.tail _ (.tail _ (.tail _ (.tail _ (.tail _ (.tail _ (.tail _ hm2)))))))
    clear F2 N2 hm1 hm2
    have hst9 : Stop 3 := .mk 3
    have hfl : ((S.infos.take (i + 1)).filter (fun j => j.np == 0)) = (S.infos.take i).filter (fun j => j.np == 0) ++ (if (j.np == 0) = true then [j] else []) := by
      rw [List.take_add_one, hj, List.filter_append]
      simp only [Option.toList_some, List.filter_cons, List.filter_nil]
    cases hz : (j.np == 0) with
    | true =>
      rw [hz] at hfl
      k_steps
      refine Held.of ?_
      k_dflt (refine' get_slot ?k1 ?k2 hI ?k4 ?k5 ?k6 ?k7 ?k8 ?k9 ?k10 ?k11 ?_; (case k1 => k_asm); (case k2 => k_asm); (case k4 => k_is); (case k5 => k_is); (case k6 => k_is); (case k7 => k_is); (case k8 => k_is); (case k9 => k_is); (case k10 => k_slotget); (case k11 => k_handed))
      k_steps
      refine Held.of ?_
      k_dflt (refine' get_slot ?k1 ?k2 hI ?k4 ?k5 ?k6 ?k7 ?k8 ?k9 ?k10 ?k11 ?_; (case k1 => k_asm); (case k2 => k_asm); (case k4 => k_is); (case k5 => k_is); (case k6 => k_is); (case k7 => k_is); (case k8 => k_is); (case k9 => k_is); (case k10 => k_slotget); (case k11 => k_handed))
      k_steps
      refine LCg.CompEnd.intro (by k_asm) (by k_asm) _ (fun p hp => hp) hoff (.tail _ (.tail _ (.tail _ (.head _)))) ⟨rfl, ?_⟩
      rw [hfl]; simp [strValues]
    | false =>
      rw [hz] at hfl
      k_steps
      refine Held.of ?_
      k_dflt (refine' get_slot ?k1 ?k2 hI ?k4 ?k5 ?k6 ?k7 ?k8 ?k9 ?k10 ?k11 ?_; (case k1 => k_asm); (case k2 => k_asm); (case k4 => k_is); (case k5 => k_is); (case k6 => k_is); (case k7 => k_is); (case k8 => k_is); (case k9 => k_is); (case k10 => k_slotget); (case k11 => k_handed))
      k_steps
      refine LCg.CompEnd.intro (by k_asm) (by k_asm) _ (fun p hp => hp) hoff (.tail _ (.tail _ (.tail _ (.head _)))) ⟨rfl, ?_⟩
      rw [hfl]; simp [strValues]
  case fin =>
    intro g ys nw hp93
    refine Classical.byContradiction fun hn9 => ?_
    obtain ⟨rfl, rfl⟩ := hp93
    refine hn9 ?_
    clear hn9
    intro D2 h2 tk2 F4 N4 o4
    clear F2 N2
    refine Classical.byContradiction fun hn9 => ?_
    obtain ⟨self, sd, d, k1, k2, k3, k4, rv, npo, nfi, od, infos⟩ := S
    refine hn9 ?_
    clear hn9
    dsimp only at hrv hN hl hlt N4 F4 o4 hSd hSl
    subst hrv
    have o5 := off1_mem o4
    simp only [List.forall_mem_cons] at o5
    refine Classical.byContradiction fun hn9 => ?_
    obtain ⟨oV, o0, o1, o2, oT⟩ := o5
    refine hn9 ?_
    clear hn9
    have hN' := hN
    simp only [Srt.led, nd_cons, List.forall_mem_cons] at hN'
    refine Classical.byContradiction fun hn9 => ?_
    obtain ⟨⟨n01, n02, n0T⟩, ⟨n12, n1T⟩, n2T, nT⟩ := hN'
    refine hn9 ?_
    clear hn9
    refine Classical.byContradiction fun hn9 => ?_
    obtain ⟨v0, v1, v2, v3⟩ := hlt
    refine hn9 ?_
    clear hn9
    have w0 := Nat.ne_of_gt (ltN v0)
    have w1 := Nat.ne_of_gt (ltN v1)
    have w2 := Nat.ne_of_gt (ltN v2)
    k_steps
    refine Held.of ?_
    rename Fr _ _ _ _ => F5
    rename News _ _ _ _ => N5
    have hS5 : Srt.Ok w ⟨self, sd, d, k1, k2, k3, k4, .ref D2, npo, nfi, od, infos⟩ := ⟨hS.dict, hS.low, hS.nd⟩
    rw [List.take_of_length_le (by simp)] at N5
    have N6 : News g' L' _ (Srt.led w ⟨self, sd, d, k1, k2, k3, k4, .ref D2, npo, nfi, od, infos⟩ ((D2, W.listOf (strValues (readyOf infos)).toArray (strValues (readyOf infos)).length) :: tl)) := cb_drop N5 (by
      intro q hq
      have hp := (led_tl w ⟨self, sd, d, k1, k2, k3, k4, .ref D2, npo, nfi, od, infos⟩ [(D2, W.listOf (strValues (readyOf infos)).toArray (strValues (readyOf infos)).length)] tl).subset hq
      simp only [Srt.led, List.cons_append, List.nil_append, List.mem_cons] at hp ⊢
      rcases hp with h | h | h | h | h
      · exact .inl (by rw [h]; rfl)
      · exact .inr (.inr (.inl h))
      · exact .inr (.inr (.inr (.inl h)))
      · exact .inr (.inr (.inr (.inr (.inl h))))
      · exact .inr (.inr (.inr (.inr (.inr h)))))
    have hnd6 : ND (Srt.led w ⟨self, sd, d, k1, k2, k3, k4, .ref D2, npo, nfi, od, infos⟩ ((D2, W.listOf (strValues (readyOf infos)).toArray (strValues (readyOf infos)).length) :: tl)) := by
      refine ND.perm (l := (D2, W.listOf (strValues (readyOf infos)).toArray (strValues (readyOf infos)).length) :: Srt.led w ⟨self, sd, d, k1, k2, k3, k4, .ref D2, npo, nfi, od, infos⟩ tl) (nd_cons.mpr ⟨?_, nd_keys hN rfl⟩) (led_tl w ⟨self, sd, d, k1, k2, k3, k4, .ref D2, npo, nfi, od, infos⟩ [(D2, W.listOf (strValues (readyOf infos)).toArray (strValues (readyOf infos)).length)] tl).symm
      intro q hq
      simp only [Srt.led, List.mem_cons] at hq
      rcases hq with rfl | rfl | rfl | hq
      · exact o0
      · exact o1
      · exact o2
      · exact oT q hq
    clear N5
    k_dflt (refine' tellG_use (fc w mean mg mb ⟨self, sd, d, k1, k2, k3, k4, .ref D2, npo, nfi, od, infos⟩ ((D2, W.listOf (strValues (readyOf infos)).toArray (strValues (readyOf infos)).length) :: tl) hS5 hl hcl) ?B ?F ?X ?N ?T ?XB ?TB ?KD ?hk ?hd ?hu ?_ ?_)
    case B => k_asm
    case F => k_asm
    case X => k_asm
    case N => k_asm
    case T => k_asm
    case XB => assumption
    case TB => assumption
    case KD => assumption
    case hk => first | exact rfl | assumption
    case hd => ktr_room
    case hu => ktr_units
    · rintro v n h7 tk7 g7 hP T7 F7 N7 B7 X7 P7 D7
      rcases hP with ⟨rfl, hnr, rfl⟩ | ⟨a, vs, c, rfl, hvs, hvl, hr, rfl⟩
      · dsimp only [Srt.led] at N7
        k_steps
        rename KtsTurn _ _ _ => kT
        rename Fr _ _ _ _ => kF
        rename News _ _ _ _ => kN
        rename Below _ _ _ _ => kB
        rename Frag.In _ _ => kX
        rename Top _ _ _ _ _ _ => kP
        rename KtsDicts _ _ => kD
        exact hret _ _ _ _ _ ⟨rfl, hnr, D2, _, rfl, hnd6⟩ kT kF kN kB kX kP kD
      · dsimp only [Srt.led] at N7
        k_steps
        rename RaisedS _ _ _ _ _ _ _ _ _ => kR
        rename Heap.UpToSlots _ _ => kU
        refine Classical.byContradiction fun hn9 => ?_
        obtain ⟨h₀9, t9, F9, B9⟩ := turnC (ce := envX cn cs L a ccd cl) rfl B FG' T7
        refine hn9 ?_
        clear hn9
        refine hexc _ _ _ _ _ _ _ _ ⟨hr, D2, _, ?_, hnd6⟩ t9 F9 B9 (XB.keeps B9.stays) (TB.keeps B9.stays) (D.turn t9) kR kU
        intro q hq
        simp only [Srt.led, List.mem_cons] at hq ⊢
        simp only [hq, or_true]
    · rintro e t vs newsE h7 tk7 G h₀7 ⟨⟩
end Mine
-- Pl
open PySem PySem.W PySem.Calls PyProof.Rows
namespace Mine

noncomputable abbrev sR : Str := Str.ofString "/"
noncomputable abbrev sU : Str := Str.ofString "/u"
noncomputable abbrev sV : Str := Str.ofString "/u/v"
noncomputable abbrev sN : Str := Str.ofString "/u/none"
noncomputable abbrev sE : Str := Str.ofString ""
theorem len_sub {l l' : List Str} (hn : l.Nodup) (hs : ∀ x ∈ l, x ∈ l') : l.length ≤ l'.length := by
  induction l generalizing l' with
  | nil => simp
  | cons x l ih =>
    rw [List.nodup_cons] at hn
    have hx : x ∈ l' := hs x (.head _)
    have h1 := ih (l' := l'.erase x) hn.2 (fun y hy => by
      have hne : y ≠ x := fun e => hn.1 (e ▸ hy)
      exact (List.mem_erase_of_ne hne).mpr (hs y (.tail _ hy)))
    rw [List.length_erase_of_mem hx] at h1
    have : 0 < l'.length := List.length_pos_of_mem hx
    simp only [List.length_cons]; omega
/-- the edges that do not come from one that is done -/
noncomputable def cnt (E : List (Str × Str)) (fin : List Str) (y : Str) : Nat := (E.filter fun e => decide (e.1 = y) && !decide (e.2 ∈ fin)).length
theorem cnt_zero {E : List (Str × Str)} {fin : List Str} {y : Str} : cnt E fin y = 0 ↔ ∀ p, (y, p) ∈ E → p ∈ fin := by
  unfold cnt
  rw [List.length_eq_zero_iff, List.filter_eq_nil_iff]
  constructor
  · intro h p hp
    have := h _ hp
    simpa using this
  · rintro h ⟨a, b⟩ he
    simp only [Bool.and_eq_true, decide_eq_true_eq, Bool.not_eq_true', decide_eq_false_iff_not, not_and, Decidable.not_not]
    rintro rfl
    exact h b he
noncomputable def ssE (E : List (Str × Str)) (x : Str) : List Str := (E.filter fun e => decide (e.2 = x)).map (·.1)
theorem ssE_mem {E : List (Str × Str)} {x y : Str} : y ∈ ssE E x ↔ (y, x) ∈ E := by
  unfold ssE
  rw [List.mem_map]
  constructor
  · rintro ⟨⟨a, b⟩, h, rfl⟩
    rw [List.mem_filter] at h
    have : b = x := by simpa using h.2
    subst this; exact h.1
  · intro h
    exact ⟨(y, x), List.mem_filter.mpr ⟨h, by simp⟩, rfl⟩
theorem cnt_push {E : List (Str × Str)} {fin : List Str} {x : Str} (hx : x ∉ fin) (y : Str) : cnt E fin y = cnt E (fin ++ [x]) y + (ssE E x).count y := by
  induction E with
  | nil => rfl
  | cons e E ih =>
    obtain ⟨a, b⟩ := e
    unfold cnt ssE at ih ⊢
    simp only [List.filter_cons, List.mem_append, List.mem_singleton] at ih ⊢
    by_cases h1 : a = y <;> by_cases h2 : b = x
    · subst h1; subst h2
      simp [hx]
      simp at ih
      omega
    · subst h1
      by_cases h3 : b ∈ fin
      · simp [h2, h3]; simpa using ih
      · simp [h2, h3]
        simp at ih
        omega
    · subst h2
      simp [h1]
      simpa using ih
    · simp [h1, h2]; simpa using ih
structure KI (E : List (Str × Str)) (names fin out ready R : List Str) (np : Str → Int) : Prop where
  nd : (fin ++ (out ++ ready)).Nodup
  sub : ∀ y ∈ fin ++ (out ++ ready), y ∈ names
  npf : ∀ y ∈ fin, np y = -2
  npo : ∀ y ∈ out, np y = -1
  npr : ∀ y ∈ ready, np y = 0
  rest : ∀ y ∈ names, y ∉ fin ++ (out ++ ready) → np y = (cnt E fin y + R.count y : Nat) ∧ 0 < np y
  pre : ∀ y ∈ fin ++ (out ++ ready), cnt E fin y = 0 ∧ y ∉ R
variable {E : List (Str × Str)} {names fin out ready R : List Str} {np np' : Str → Int}
theorem ki_start (hn : names.Nodup) (h : ∀ y, np y = (E.filter fun e => decide (e.1 = y)).length) : KI E names [] [] (names.filter fun y => decide (np y = 0)) [] np := by
  have hc : ∀ y, np y = cnt E [] y := by intro y; rw [h]; unfold cnt; simp
  refine ⟨?_, ?_, ?_, ?_, ?_, ?_, ?_⟩
  · show (names.filter _).Nodup
    exact List.Nodup.sublist List.filter_sublist hn
  · intro y hy
    simp at hy
    exact hy.1
  · intro y hy; cases hy
  · intro y hy; cases hy
  · intro y hy; simpa using (List.mem_filter.mp hy).2
  · intro y hy hny
    simp at hny
    have := hny hy
    have h2 := hc y
    simp
    omega
  · intro y hy
    simp at hy
    have h2 := hc y
    exact ⟨by omega, by simp⟩
theorem ki_pass (h : KI E names fin [] ready [] np) (hp : ∀ y, np' y = if y ∈ ready then -1 else np y) : KI E names fin ready [] [] np' := by
  have hd := h.nd
  simp only [List.nil_append] at hd
  rw [List.nodup_append] at hd
  refine ⟨by simpa using h.nd, by simpa using h.sub, ?_, ?_, ?_, ?_, by simpa using h.pre⟩
  · intro y hy
    rw [hp, if_neg (fun hr => hd.2.2 y hy y hr rfl)]
    exact h.npf y hy
  · intro y hy; rw [hp, if_pos hy]
  · intro y hy; cases hy
  · intro y hy hny
    have hny' : y ∉ fin ++ ([] ++ ready) := by simpa using hny
    have : y ∉ ready := fun q => hny (by simp [q])
    rw [hp, if_neg this]
    exact h.rest y hy hny'
theorem ki_done {x : Str} (h : KI E names fin (x :: out) ready [] np) (hp : ∀ y, np' y = if y = x then -2 else np y) : KI E names (fin ++ [x]) out ready (ssE E x) np' := by
  have hd := h.nd
  have hm : ∀ y, y ∈ (fin ++ [x]) ++ (out ++ ready) ↔ y ∈ fin ++ (x :: out ++ ready) := by
    intro y; simp
  have hd' := hd
  rw [List.nodup_append] at hd
  have hxf : x ∉ fin := fun q => hd.2.2 x q x (by simp) rfl
  have hd2 := hd.2.1
  rw [List.cons_append, List.nodup_cons] at hd2
  have hxo : x ∉ out := fun q => hd2.1 (by simp [q])
  have hxr : x ∉ ready := fun q => hd2.1 (by simp [q])
  refine ⟨by simpa using hd', fun y hy => h.sub y ((hm y).mp hy), ?_, ?_, ?_, ?_, ?_⟩
  · intro y hy
    rw [hp]
    by_cases e : y = x
    · rw [if_pos e]
    · rw [if_neg e]
      rcases List.mem_append.mp hy with hy | hy
      · exact h.npf y hy
      · exact absurd (List.mem_singleton.mp hy) e
  · intro y hy
    rw [hp, if_neg (fun e : y = x => hxo (e ▸ hy))]
    exact h.npo y (.tail _ hy)
  · intro y hy
    rw [hp, if_neg (fun e : y = x => hxr (e ▸ hy))]
    exact h.npr y hy
  · intro y hy hny
    rw [hm] at hny
    have e : y ≠ x := fun e => hny (by simp [e])
    rw [hp, if_neg e]
    obtain ⟨h1, h2⟩ := h.rest y hy hny
    refine ⟨?_, h2⟩
    rw [h1, cnt_push hxf y]
    simp
  · intro y hy
    rw [hm] at hy
    obtain ⟨h1, _⟩ := h.pre y hy
    refine ⟨?_, ?_⟩
    · rw [cnt_push hxf y] at h1; omega
    · intro q
      rw [cnt_push hxf y] at h1
      have := List.count_pos_iff.mpr q
      omega
theorem ki_off {y : Str} (h : KI E names fin out ready (y :: R) np) : y ∉ fin ++ (out ++ ready) := fun q => (h.pre y q).2 (.head _)
theorem ki_succ_ready {y : Str} (h : KI E names fin out ready (y :: R) np) (hy : y ∈ names) (hz0 : np y - 1 = 0) (hp : ∀ z, np' z = if z = y then np y - 1 else np z) : KI E names fin out (ready ++ [y]) R np' := by
  have hoff := ki_off h
  have hm : ∀ z, z ∈ fin ++ (out ++ (ready ++ [y])) ↔ z ∈ fin ++ (out ++ ready) ∨ z = y := by
    intro z; simp [or_assoc]
  obtain ⟨h1, h2⟩ := h.rest y hy hoff
  rw [List.count_cons_self] at h1
  have hc : cnt E fin y = 0 ∧ R.count y = 0 := by omega
  refine ⟨?_, ?_, ?_, ?_, ?_, ?_, ?_⟩
  · have : (fin ++ (out ++ (ready ++ [y]))) = (fin ++ (out ++ ready)) ++ [y] := by simp
    rw [this, List.nodup_append]
    refine ⟨h.nd, by simp, ?_⟩
    intro a ha b hb e
    rw [List.mem_singleton.mp hb] at e
    exact hoff (e ▸ ha)
  · intro z hz
    rcases (hm z).mp hz with hz | rfl
    · exact h.sub z hz
    · exact hy
  · intro z hz
    rw [hp, if_neg (fun e => hoff (by rw [← e]; simp [hz]))]
    exact h.npf z hz
  · intro z hz
    rw [hp, if_neg (fun e => hoff (by rw [← e]; simp [hz]))]
    exact h.npo z hz
  · intro z hz
    rw [hp]
    by_cases e : z = y
    · rw [if_pos e]; exact hz0
    · rw [if_neg e]
      rcases List.mem_append.mp hz with hz | hz
      · exact h.npr z hz
      · exact absurd (List.mem_singleton.mp hz) e
  · intro z hz hnz
    rw [hm] at hnz
    have e : z ≠ y := fun e => hnz (.inr e)
    rw [hp, if_neg e]
    obtain ⟨h3, h4⟩ := h.rest z hz (fun q => hnz (.inl q))
    rw [List.count_cons_of_ne (Ne.symm e)] at h3
    exact ⟨h3, h4⟩
  · intro z hz
    rcases (hm z).mp hz with hz | rfl
    · exact ⟨(h.pre z hz).1, fun q => (h.pre z hz).2 (.tail _ q)⟩
    · exact ⟨hc.1, List.count_eq_zero.mp hc.2⟩
theorem ki_succ_wait {y : Str} (h : KI E names fin out ready (y :: R) np) (hy : y ∈ names) (hz : np y - 1 ≠ 0) (hp : ∀ z, np' z = if z = y then np y - 1 else np z) : KI E names fin out ready R np' := by
  have hoff := ki_off h
  obtain ⟨h1, h2⟩ := h.rest y hy hoff
  rw [List.count_cons_self] at h1
  have hne : ∀ z ∈ fin ++ (out ++ ready), z ≠ y := fun z hz e => hoff (e ▸ hz)
  refine ⟨h.nd, h.sub, ?_, ?_, ?_, ?_, fun z hz => ⟨(h.pre z hz).1, fun q => (h.pre z hz).2 (.tail _ q)⟩⟩
  · intro z hz; rw [hp, if_neg (hne z (by simp [hz]))]; exact h.npf z hz
  · intro z hz; rw [hp, if_neg (hne z (by simp [hz]))]; exact h.npo z hz
  · intro z hz; rw [hp, if_neg (hne z (by simp [hz]))]; exact h.npr z hz
  · intro z hz hnz
    rw [hp]
    by_cases e : z = y
    · subst e
      rw [if_pos rfl]
      omega
    · rw [if_neg e]
      obtain ⟨h3, h4⟩ := h.rest z hz hnz
      rw [List.count_cons_of_ne (Ne.symm e)] at h3
      exact ⟨h3, h4⟩
theorem ki_end (h : KI E names fin [] [] [] np) {y : Str} (hy : y ∈ names) (hf : y ∉ fin) : ∃ p, (y, p) ∈ E ∧ p ∉ fin := by
  obtain ⟨h1, h2⟩ := h.rest y hy (by simpa using hf)
  have : cnt E fin y ≠ 0 := by simp at h1; omega
  rw [Ne, cnt_zero] at this
  exact Classical.byContradiction fun hn => this fun p hp => Classical.byContradiction fun hq => hn ⟨p, hp, hq⟩
theorem ki_pre (h : KI E names fin out ready R np) {y p : Str} (hy : y ∈ fin ++ (out ++ ready)) (he : (y, p) ∈ E) : p ∈ fin := cnt_zero.mp (h.pre y hy).1 p he
end Mine
-- Pl2
open PySem PySem.W PySem.Calls PyProof.Rows
namespace Mine

structure Fil where
  name : Str
  mode : Int
  text : Str
  goal : Str
noncomputable def edgesOf (dr : Str → Str) (fs : List Fil) : List (Str × Str) :=
  (sV, sU) :: (sU, sR) :: fs.flatMap fun f => (f.name, dr f.name) :: (if f.goal = sE then [] else [(f.name, f.goal)])
/-- what the graph's law asks of the files -/
structure GF (dr : Str → Str) (fs : List Fil) : Prop where
  nd : (fs.map (·.name)).Nodup
  dir : ∀ f ∈ fs, dr f.name = sR ∨ dr f.name = sU ∨ dr f.name = sV
  off : ∀ f ∈ fs, f.name ≠ sR ∧ f.name ≠ sU ∧ f.name ≠ sV ∧ f.name ≠ sN
  goal : ∀ f ∈ fs, f.goal ≠ sE → (∃ g ∈ fs, g.name = f.goal) ∨ f.goal = sN
theorem mem_edges {dr : Str → Str} {fs : List Fil} {y p : Str} : (y, p) ∈ edgesOf dr fs ↔ (y = sV ∧ p = sU) ∨ (y = sU ∧ p = sR) ∨ ∃ f ∈ fs, y = f.name ∧ (p = dr f.name ∨ (f.goal ≠ sE ∧ p = f.goal)) := by
  unfold edgesOf
  simp only [List.mem_cons, Prod.mk.injEq, List.mem_flatMap]
  refine or_congr Iff.rfl (or_congr Iff.rfl ?_)
  constructor
  · rintro ⟨f, hf, h⟩
    refine ⟨f, hf, ?_⟩
    rcases h with ⟨h1, h2⟩ | h
    · exact ⟨h1, .inl h2⟩
    · by_cases e : f.goal = sE
      · rw [if_pos e] at h; cases h
      · rw [if_neg e] at h
        simp at h
        exact ⟨h.1, .inr ⟨e, h.2⟩⟩
  · rintro ⟨f, hf, h1, h | ⟨h2, h3⟩⟩
    · exact ⟨f, hf, .inl ⟨h1, h⟩⟩
    · exact ⟨f, hf, .inr (by rw [if_neg h2]; simp [h1, h3])⟩
/-- the link chain of y ends after k steps with e -/
inductive EndsN (row : Int → Str) (fs : List Fil) : Nat → Str → Str × Str → Prop
  | none {y : Str} : (∀ f ∈ fs, f.name ≠ y) → EndsN row fs 0 y (Str.ofString "none", sE)
  | plain {f : Fil} : f ∈ fs → f.goal = sE → EndsN row fs 0 f.name (f.name, row f.mode)
  | link {f : Fil} {k : Nat} {e : Str × Str} : f ∈ fs → f.goal ≠ sE → EndsN row fs k f.goal e → EndsN row fs (k + 1) f.name e
noncomputable def Ends (row : Int → Str) (fs : List Fil) (y : Str) (e : Str × Str) : Prop := ∃ k, EndsN row fs k y e
theorem fil_eq {fs : List Fil} (hn : (fs.map (·.name)).Nodup) {f g : Fil} (hf : f ∈ fs) (hg : g ∈ fs) (e : f.name = g.name) : f = g := by
  induction fs with
  | nil => cases hf
  | cons a r ih =>
    rw [List.map_cons, List.nodup_cons] at hn
    rcases List.mem_cons.mp hf with h1 | h1
    · rcases List.mem_cons.mp hg with h2 | h2
      · rw [h1, h2]
      · exact absurd (show a.name ∈ r.map (·.name) by rw [← h1, e]; exact List.mem_map_of_mem (f := Fil.name) h2) hn.1
    · rcases List.mem_cons.mp hg with h2 | h2
      · exact absurd (show a.name ∈ r.map (·.name) by rw [← h2, ← e]; exact List.mem_map_of_mem (f := Fil.name) h1) hn.1
      · exact ih hn.2 h1 h2
section
variable {row : Int → Str} {dr : Str → Str} {fs : List Fil}
theorem endsN_inv {k : Nat} {y : Str} {e : Str × Str} (h : EndsN row fs k y e) : (k = 0 ∧ (∀ f ∈ fs, f.name ≠ y) ∧ e = (Str.ofString "none", sE)) ∨
    (k = 0 ∧ ∃ f ∈ fs, f.name = y ∧ f.goal = sE ∧ e = (f.name, row f.mode)) ∨ (∃ f ∈ fs, f.name = y ∧ f.goal ≠ sE ∧ ∃ j, k = j + 1 ∧ EndsN row fs j f.goal e) := by
  cases h with
  | none h0 => exact .inl ⟨rfl, h0, rfl⟩
  | plain hf hg => exact .inr (.inl ⟨rfl, _, hf, rfl, hg, rfl⟩)
  | link hf hg h => exact .inr (.inr ⟨_, hf, rfl, hg, _, rfl, h⟩)
theorem endsN_link (hn : (fs.map (·.name)).Nodup) {k : Nat} {f : Fil} {e : Str × Str} (hf : f ∈ fs) (hg : f.goal ≠ sE) (h : EndsN row fs k f.name e) : ∃ j, k = j + 1 ∧ EndsN row fs j f.goal e := by
  rcases endsN_inv h with ⟨_, h0, _⟩ | ⟨_, f2, hf2, h2, h3, _⟩ | ⟨f2, hf2, h2, h3, j, hj, h4⟩
  · exact absurd rfl (h0 f hf)
  · have := fil_eq hn hf2 hf h2
    subst this
    exact absurd h3 hg
  · have := fil_eq hn hf2 hf h2
    subst this
    exact ⟨j, hj, h4⟩
theorem endsN_det (hn : (fs.map (·.name)).Nodup) {k j : Nat} {y : Str} {e e' : Str × Str} (h : EndsN row fs k y e) (h' : EndsN row fs j y e') : k = j ∧ e = e' := by
  induction h generalizing j e' with
  | none h0 =>
    rcases endsN_inv h' with ⟨h1, _, h3⟩ | ⟨_, f2, hf2, h2, _⟩ | ⟨f2, hf2, h2, _⟩
    · exact ⟨h1.symm, h3.symm⟩
    · exact absurd h2 (h0 _ hf2)
    · exact absurd h2 (h0 _ hf2)
  | @plain f hf hg =>
    rcases endsN_inv h' with ⟨_, h0, _⟩ | ⟨h1, f2, hf2, h2, h3, h4⟩ | ⟨f2, hf2, h2, h3, _⟩
    · exact absurd rfl (h0 f hf)
    · have := fil_eq hn hf2 hf h2
      subst this
      exact ⟨h1.symm, h4.symm⟩
    · have := fil_eq hn hf2 hf h2
      subst this
      exact absurd hg h3
  | @link f k e hf hg _ ih =>
    obtain ⟨j', rfl, h2⟩ := endsN_link hn hf hg h'
    obtain ⟨q1, q2⟩ := ih h2
    exact ⟨by rw [q1], q2⟩
theorem ends_det (hn : (fs.map (·.name)).Nodup) {y : Str} {e e' : Str × Str} (h : Ends row fs y e) (h' : Ends row fs y e') : e = e' := by
  obtain ⟨k, h⟩ := h; obtain ⟨j, h'⟩ := h'; exact (endsN_det hn h h').2
theorem endsN_visits (hn : (fs.map (·.name)).Nodup) {k : Nat} {y : Str} {e : Str × Str} (h : EndsN row fs k y e) : ∃ l : List Str, l.length = k ∧ l.Nodup ∧ (∀ z ∈ l, z ∈ fs.map (·.name)) ∧ ∀ z ∈ l, ∃ j, j ≤ k ∧ EndsN row fs j z e := by
  induction h with
  | none h0 => exact ⟨[], rfl, .nil, by simp, by simp⟩
  | plain hf hg => exact ⟨[], rfl, .nil, by simp, by simp⟩
  | @link f k e hf hg h2 ih =>
    obtain ⟨l, h3, h4, h5, h6⟩ := ih
    refine ⟨f.name :: l, by simp [h3], List.nodup_cons.mpr ⟨fun q => ?_, h4⟩, ?_, ?_⟩
    · obtain ⟨j, hj, he⟩ := h6 _ q
      have := (endsN_det hn he (EndsN.link hf hg h2)).1
      omega
    · intro z hz
      rcases List.mem_cons.mp hz with rfl | hz
      · exact List.mem_map_of_mem hf
      · exact h5 z hz
    · intro z hz
      rcases List.mem_cons.mp hz with rfl | hz
      · exact ⟨k + 1, Nat.le_refl _, .link hf hg h2⟩
      · obtain ⟨j, hj, he⟩ := h6 z hz
        exact ⟨j, by omega, he⟩
theorem endsN_le (hn : (fs.map (·.name)).Nodup) {k : Nat} {y : Str} {e : Str × Str} (h : EndsN row fs k y e) : k ≤ fs.length := by
  obtain ⟨l, h1, h2, h3, _⟩ := endsN_visits hn h
  have := len_sub h2 h3
  simpa [h1] using this
/-- the reader's steps -/
inductive Stp (fs : List Fil) : Nat → Str → Str → Prop
  | zero {x : Str} : Stp fs 0 x x
  | succ {n : Nat} {x : Str} {f : Fil} : Stp fs n x f.name → f ∈ fs → f.goal ≠ sE → Stp fs (n + 1) x f.goal
theorem stp_end {n k : Nat} {x z : Str} {e : Str × Str} (h : Stp fs n x z) (h2 : EndsN row fs k z e) : EndsN row fs (k + n) x e := by
  induction h generalizing k with
  | zero => exact h2
  | @succ n x f _ hf hg ih =>
    have := ih (.link hf hg h2)
    rw [show k + (n + 1) = k + 1 + n by omega]; exact this
theorem stp_left (hn : (fs.map (·.name)).Nodup) {n k : Nat} {x z : Str} {e : Str × Str} (h : Stp fs n x z) (h2 : EndsN row fs k x e) : ∃ j, k = j + n ∧ EndsN row fs j z e := by
  induction h generalizing k with
  | zero => exact ⟨k, rfl, h2⟩
  | @succ n x f _ hf hg ih =>
    obtain ⟨j, hj, he⟩ := ih h2
    obtain ⟨j', h3, h4⟩ := endsN_link hn hf hg he
    exact ⟨j', by omega, h4⟩
theorem stp_long (hn : (fs.map (·.name)).Nodup) {n : Nat} {x z : Str} (h : Stp fs n x z) (hl : fs.length < n) : ¬ ∃ e, Ends row fs x e := by
  rintro ⟨e, k, h2⟩
  obtain ⟨j, hj, _⟩ := stp_left hn h h2
  have := endsN_le hn h2
  omega
theorem folders (G : GF dr fs) {names fin : List Str} {np : Str → Int} (hn : ∀ y, y ∈ names ↔ ∃ e ∈ edgesOf dr fs, y = e.1 ∨ y = e.2) (h : KI (edgesOf dr fs) names fin [] [] [] np) : sR ∈ fin ∧ sU ∈ fin ∧ sV ∈ fin := by
  have mR : sR ∈ names := (hn _).mpr ⟨(sU, sR), mem_edges.mpr (.inr (.inl ⟨rfl, rfl⟩)), .inr rfl⟩
  have mU : sU ∈ names := (hn _).mpr ⟨(sU, sR), mem_edges.mpr (.inr (.inl ⟨rfl, rfl⟩)), .inl rfl⟩
  have mV : sV ∈ names := (hn _).mpr ⟨(sV, sU), mem_edges.mpr (.inl ⟨rfl, rfl⟩), .inl rfl⟩
  have hR : sR ∈ fin := Classical.byContradiction fun q => by
    obtain ⟨p, hp, _⟩ := ki_end h mR q
    rcases mem_edges.mp hp with ⟨h1, _⟩ | ⟨h1, _⟩ | ⟨f, hf, h1, _⟩
    · exact absurd h1 (by decide)
    · exact absurd h1 (by decide)
    · exact (G.off f hf).1 h1.symm
  have hU : sU ∈ fin := Classical.byContradiction fun q => by
    obtain ⟨p, hp, hq⟩ := ki_end h mU q
    rcases mem_edges.mp hp with ⟨h1, _⟩ | ⟨_, h1⟩ | ⟨f, hf, h1, _⟩
    · exact absurd h1 (by decide)
    · exact hq (h1 ▸ hR)
    · exact (G.off f hf).2.1 h1.symm
  have hV : sV ∈ fin := Classical.byContradiction fun q => by
    obtain ⟨p, hp, hq⟩ := ki_end h mV q
    rcases mem_edges.mp hp with ⟨_, h1⟩ | ⟨h1, _⟩ | ⟨f, hf, h1, _⟩
    · exact hq (h1 ▸ hU)
    · exact absurd h1 (by decide)
    · exact (G.off f hf).2.2.1 h1.symm
  exact ⟨hR, hU, hV⟩
theorem kahn_all (G : GF dr fs) {names fin : List Str} {np : Str → Int} (hn : ∀ y, y ∈ names ↔ ∃ e ∈ edgesOf dr fs, y = e.1 ∨ y = e.2) (h : KI (edgesOf dr fs) names fin [] [] [] np)
    {k : Nat} {y : Str} {e : Str × Str} (he : EndsN row fs k y e) : y ∈ names → y ∈ fin := by
  obtain ⟨hR, hU, hV⟩ := folders G hn h
  have hd : ∀ f ∈ fs, dr f.name ∈ fin := fun f hf => by
    rcases G.dir f hf with q | q | q <;> rw [q] <;> assumption
  induction he with
  | none h0 =>
    intro hy
    refine Classical.byContradiction fun q => ?_
    obtain ⟨p, hp, hq⟩ := ki_end h hy q
    rcases mem_edges.mp hp with ⟨_, h1⟩ | ⟨_, h1⟩ | ⟨f, hf, h1, _⟩
    · exact hq (h1 ▸ hU)
    · exact hq (h1 ▸ hR)
    · exact h0 f hf h1.symm
  | @plain f hf hg =>
    intro hy
    refine Classical.byContradiction fun q => ?_
    obtain ⟨p, hp, hq⟩ := ki_end h hy q
    rcases mem_edges.mp hp with ⟨_, h1⟩ | ⟨_, h1⟩ | ⟨f2, hf2, h1, h2⟩
    · exact hq (h1 ▸ hU)
    · exact hq (h1 ▸ hR)
    · have := fil_eq G.nd hf hf2 h1
      subst this
      rcases h2 with h2 | ⟨h2, _⟩
      · exact hq (h2 ▸ hd f hf)
      · exact h2 hg
  | @link f k e hf hg h3 ih =>
    intro hy
    refine Classical.byContradiction fun q => ?_
    obtain ⟨p, hp, hq⟩ := ki_end h hy q
    rcases mem_edges.mp hp with ⟨_, h1⟩ | ⟨_, h1⟩ | ⟨f2, hf2, h1, h2⟩
    · exact hq (h1 ▸ hU)
    · exact hq (h1 ▸ hR)
    · have := fil_eq G.nd hf hf2 h1
      subst this
      rcases h2 with h2 | ⟨_, h2⟩
      · exact hq (h2 ▸ hd f hf)
      · refine hq (h2 ▸ ih ((hn _).mpr ⟨(f.name, f.goal), mem_edges.mpr (.inr (.inr ⟨f, hf, rfl, .inr ⟨hg, rfl⟩⟩)), .inr rfl⟩))
theorem path_last {ss : Str → List Str} {x z : Str} (p : Path ss x z) : ∃ q, z ∈ ss q ∧ (q = x ∨ Path ss x q) := by
  induction p with
  | @one x y h => exact ⟨x, h, .inl rfl⟩
  | @cons x y z h _ ih =>
    obtain ⟨q, hq, h2⟩ := ih
    refine ⟨q, hq, .inr ?_⟩
    rcases h2 with rfl | h2
    · exact .one h
    · exact .cons h h2
theorem ring_pred {E : List (Str × Str)} {y : Str} (h : Path (ssE E) y y) : ∃ p, (y, p) ∈ E ∧ Path (ssE E) p p := by
  obtain ⟨q, hq, h2⟩ := path_last h
  refine ⟨q, ssE_mem.mp hq, ?_⟩
  rcases h2 with rfl | h2
  · exact h
  · exact .cons hq h2
theorem ends_no_ring (G : GF dr fs) {k : Nat} {y : Str} {e : Str × Str} (he : EndsN row fs k y e) : ¬ Path (ssE (edgesOf dr fs)) y y := by
  have hR : ¬ Path (ssE (edgesOf dr fs)) sR sR := fun h => by
    obtain ⟨p, hp, _⟩ := ring_pred h
    rcases mem_edges.mp hp with ⟨h1, _⟩ | ⟨h1, _⟩ | ⟨f, hf, h1, _⟩
    · exact absurd h1 (by decide)
    · exact absurd h1 (by decide)
    · exact (G.off f hf).1 h1.symm
  have hU : ¬ Path (ssE (edgesOf dr fs)) sU sU := fun h => by
    obtain ⟨p, hp, hq⟩ := ring_pred h
    rcases mem_edges.mp hp with ⟨h1, _⟩ | ⟨_, h1⟩ | ⟨f, hf, h1, _⟩
    · exact absurd h1 (by decide)
    · exact hR (h1 ▸ hq)
    · exact (G.off f hf).2.1 h1.symm
  have hV : ¬ Path (ssE (edgesOf dr fs)) sV sV := fun h => by
    obtain ⟨p, hp, hq⟩ := ring_pred h
    rcases mem_edges.mp hp with ⟨_, h1⟩ | ⟨h1, _⟩ | ⟨f, hf, h1, _⟩
    · exact hU (h1 ▸ hq)
    · exact absurd h1 (by decide)
    · exact (G.off f hf).2.2.1 h1.symm
  have hd : ∀ f ∈ fs, ¬ Path (ssE (edgesOf dr fs)) (dr f.name) (dr f.name) := fun f hf => by
    rcases G.dir f hf with q | q | q <;> rw [q] <;> assumption
  induction he with
  | none h0 =>
    intro h
    obtain ⟨p, hp, hq⟩ := ring_pred h
    rcases mem_edges.mp hp with ⟨_, h1⟩ | ⟨_, h1⟩ | ⟨f, hf, h1, _⟩
    · exact hU (h1 ▸ hq)
    · exact hR (h1 ▸ hq)
    · exact h0 f hf h1.symm
  | @plain f hf hg =>
    intro h
    obtain ⟨p, hp, hq⟩ := ring_pred h
    rcases mem_edges.mp hp with ⟨_, h1⟩ | ⟨_, h1⟩ | ⟨f2, hf2, h1, h2⟩
    · exact hU (h1 ▸ hq)
    · exact hR (h1 ▸ hq)
    · have := fil_eq G.nd hf hf2 h1
      subst this
      rcases h2 with h2 | ⟨h2, _⟩
      · exact hd f hf (h2 ▸ hq)
      · exact h2 hg
  | @link f k e hf hg h3 ih =>
    intro h
    obtain ⟨p, hp, hq⟩ := ring_pred h
    rcases mem_edges.mp hp with ⟨_, h1⟩ | ⟨_, h1⟩ | ⟨f2, hf2, h1, h2⟩
    · exact hU (h1 ▸ hq)
    · exact hR (h1 ▸ hq)
    · have := fil_eq G.nd hf hf2 h1
      subst this
      rcases h2 with h2 | ⟨_, h2⟩
      · exact hd f hf (h2 ▸ hq)
      · exact ih (h2 ▸ hq)
noncomputable def Bad (row : Int → Str) (fs : List Fil) (y : Str) : Prop := ¬ ∃ e, Ends row fs y e
theorem ring_bad (G : GF dr fs) (h : HasRing (ssE (edgesOf dr fs))) : ∃ f ∈ fs, Bad row fs f.name := by
  obtain ⟨x, hx⟩ := h
  have hb : Bad row fs x := fun ⟨e, k, he⟩ => ends_no_ring G he hx
  by_cases q : ∃ f ∈ fs, f.name = x
  · obtain ⟨f, hf, rfl⟩ := q
    exact ⟨f, hf, hb⟩
  · exact absurd ⟨_, 0, .none fun f hf e => q ⟨f, hf, e⟩⟩ hb
theorem bad_next {y : Str} (h : Bad row fs y) : ∃ f ∈ fs, f.name = y ∧ f.goal ≠ sE ∧ Bad row fs f.goal := by
  by_cases q : ∃ f ∈ fs, f.name = y
  · obtain ⟨f, hf, rfl⟩ := q
    by_cases g : f.goal = sE
    · exact absurd ⟨_, 0, .plain hf g⟩ h
    · exact ⟨f, hf, rfl, g, fun ⟨e, k, he⟩ => h ⟨e, k + 1, .link hf g he⟩⟩
  · exact absurd ⟨_, 0, .none fun f hf e => q ⟨f, hf, e⟩⟩ h
noncomputable def Chn (row : Int → Str) (dr : Str → Str) (fs : List Fil) : List Str → Prop
  | [] => True
  | x :: t => Bad row fs x ∧ (∀ y ∈ t, Path (ssE (edgesOf dr fs)) x y) ∧ Chn row dr fs t
theorem chn_long {x : Str} (h : Bad row fs x) : ∀ n, ∃ y t, Chn row dr fs (y :: t) ∧ t.length = n := by
  intro n
  induction n with
  | zero => exact ⟨x, [], ⟨h, by simp, trivial⟩, rfl⟩
  | succ n ih =>
    obtain ⟨y, t, hc, hl⟩ := ih
    obtain ⟨f, hf, rfl, hg, hb⟩ := bad_next hc.1
    have he : f.name ∈ ssE (edgesOf dr fs) f.goal := ssE_mem.mpr (mem_edges.mpr (.inr (.inr ⟨f, hf, rfl, .inr ⟨hg, rfl⟩⟩)))
    refine ⟨f.goal, f.name :: t, ⟨hb, ?_, hc⟩, by simp [hl]⟩
    intro z hz
    rcases List.mem_cons.mp hz with rfl | hz
    · exact .one he
    · exact .cons he (hc.2.1 z hz)
theorem chn_bad : ∀ {l : List Str}, Chn row dr fs l → ∀ x ∈ l, x ∈ fs.map (·.name)
  | [], _, x, h => nomatch h
  | y :: t, hc, x, h => by
    rcases List.mem_cons.mp h with rfl | h
    · obtain ⟨f, hf, e, _⟩ := bad_next hc.1
      rw [← e]; exact List.mem_map_of_mem hf
    · exact chn_bad hc.2.2 x h
theorem chn_ring : ∀ {l : List Str}, Chn row dr fs l → ¬ l.Nodup → HasRing (ssE (edgesOf dr fs))
  | [], _, h => absurd .nil h
  | y :: t, hc, h => by
    rw [List.nodup_cons] at h
    by_cases q : y ∈ t
    · exact ⟨y, hc.2.1 y q⟩
    · exact chn_ring hc.2.2 fun h2 => h ⟨q, h2⟩
theorem bad_ring {x : Str} (h : Bad row fs x) : HasRing (ssE (edgesOf dr fs)) := by
  obtain ⟨y, t, hc, hl⟩ := chn_long (dr := dr) h fs.length
  refine chn_ring hc fun hn => ?_
  have := len_sub hn (chn_bad hc)
  simp only [List.length_cons, hl, List.length_map] at this
  omega
noncomputable def Node (fs : List Fil) (y : Str) : Prop := y = sR ∨ y = sU ∨ y = sV ∨ (∃ f ∈ fs, f.name = y) ∨ (y = sN ∧ ∃ f ∈ fs, f.goal = sN)
theorem node_iff (G : GF dr fs) (y : Str) : (∃ e ∈ edgesOf dr fs, y = e.1 ∨ y = e.2) ↔ Node fs y := by
  constructor
  · rintro ⟨⟨a, b⟩, he, h⟩
    rcases mem_edges.mp he with ⟨rfl, rfl⟩ | ⟨rfl, rfl⟩ | ⟨f, hf, rfl, h2⟩
    · rcases h with rfl | rfl
      · exact .inr (.inr (.inl rfl))
      · exact .inr (.inl rfl)
    · rcases h with rfl | rfl
      · exact .inr (.inl rfl)
      · exact .inl rfl
    · rcases h with rfl | rfl
      · exact .inr (.inr (.inr (.inl ⟨f, hf, rfl⟩)))
      · rcases h2 with rfl | ⟨hg, rfl⟩
        · rcases G.dir f hf with q | q | q <;> rw [q]
          · exact .inl rfl
          · exact .inr (.inl rfl)
          · exact .inr (.inr (.inl rfl))
        · rcases G.goal f hf hg with ⟨g, hg2, e⟩ | e
          · exact .inr (.inr (.inr (.inl ⟨g, hg2, e⟩)))
          · exact .inr (.inr (.inr (.inr ⟨e, f, hf, e⟩)))
  · rintro (rfl | rfl | rfl | ⟨f, hf, rfl⟩ | ⟨rfl, f, hf, e⟩)
    · exact ⟨(sU, sR), mem_edges.mpr (.inr (.inl ⟨rfl, rfl⟩)), .inr rfl⟩
    · exact ⟨(sU, sR), mem_edges.mpr (.inr (.inl ⟨rfl, rfl⟩)), .inl rfl⟩
    · exact ⟨(sV, sU), mem_edges.mpr (.inl ⟨rfl, rfl⟩), .inl rfl⟩
    · exact ⟨(f.name, dr f.name), mem_edges.mpr (.inr (.inr ⟨f, hf, rfl, .inl rfl⟩)), .inl rfl⟩
    · exact ⟨(f.name, f.goal), mem_edges.mpr (.inr (.inr ⟨f, hf, rfl, .inr ⟨by rw [e]; decide, rfl⟩⟩)), .inr e.symm⟩
end
end Mine
-- Bl
open PySem PySem.W PySem.Calls PyProof.Rows
namespace Mine

section
variable {prog : Program} {w : World} {A : Around} {E : Value → Shared → Prop} {s : Shared}
theorem meets_bool_list {l : Addr} {items : Array Value} (hfit : (items.size : Int) < 2 ^ 63) :
    Meets (Builtin.«bool.__new__» ⟨[.type "bool", .ref l], []⟩) (fun _ R s => s.heap.IsList l items ∧ R (.ok (.ret (.bool (!items.isEmpty)))) { s with toks := s.toks + 1 + 1 }) := by
  intro prog w A R s hs
  refine Classical.byContradiction fun hn9 => ?_
  obtain ⟨hp, g, d, tk, os⟩ := s
  refine hn9 ?_
  clear hn9
  refine Classical.byContradiction fun hn9 => ?_
  obtain ⟨hl, hs⟩ := hs
  refine hn9 ?_
  clear hn9
  have f1 := F.conv_sub_bool
  repeat (any_goals (first | assumption | (with_reducible refine wpAny_truthy_list hl hfit ?_) | wp_step))
theorem call_bool_list {l : Addr} {items : Array Value} {Q : Value → Shared → Prop} (hl : s.heap.IsList l items) (hfit : (items.size : Int) < 2 ^ 63) (h : Q (.bool (!items.isEmpty)) { s with toks := s.toks + 1 + 1 }) :
    wpAny (model prog w) A (call (.type "bool") [.ref l]) Q E s :=
  call_bool_1 (meets_bool_list hfit) (show s.heap.IsList l items ∧ wants (fun obj s₁ => s₁.TypeIs obj "bool" ∧ Q obj s₁) E _ _ from ⟨hl, rfl, h⟩)
theorem boolL {h₀ : Heap} {L D : Addr} {news : Led} {n : Nat} {vs : List Value} {Q : Value → Shared → Prop} (N : News h₀ L s.heap news) (hp : (D, W.listOf vs.toArray n) ∈ news) (hz : vs.length ≤ 16777216) (h : Q (.bool (!vs.isEmpty)) { s with toks := s.toks + 1 + 1 }) :
    wpAny (model prog w) A (call (.type "bool") [.ref D]) Q E s := by
  refine call_bool_list (items := vs.toArray) ⟨_, (N _ hp).1, rfl, _, rfl⟩ (by simp only [List.size_toArray]; omega) ?_
  simpa using h
end
end Mine
-- Grd
open PySem PySem.W PySem.Calls PyProof.Rows
namespace Mine


theorem lines_Grd1 : True := by
  k_with_none
  k_with "k_ne" => (first | with_reducible assumption | exact Ne.symm (by with_reducible assumption) | (refine neN ?_; (try dsimp only); first | with_reducible assumption | exact Ne.symm (by with_reducible assumption) | exact Nat.ne_of_lt (by with_reducible assumption) | exact Nat.ne_of_gt (by with_reducible assumption) | exact nl0 (by with_reducible assumption) | exact ng0 (by with_reducible assumption) | exact nl1 (by with_reducible assumption) | exact ng1 (by with_reducible assumption) | exact nl2 (by with_reducible assumption) | exact ng2 (by with_reducible assumption) | exact nl3 (by with_reducible assumption) | exact ng3 (by with_reducible assumption) | exact nl4 (by with_reducible assumption) | exact ng4 (by with_reducible assumption) | exact nl5 (by with_reducible assumption) | exact ng5 (by with_reducible assumption) | exact nl6 (by with_reducible assumption) | exact ng6 (by with_reducible assumption) | exact nl7 (by with_reducible assumption) | exact ng7 (by with_reducible assumption) | exact nl8 (by with_reducible assumption) | exact ng8 (by with_reducible assumption) | exact nl9 (by with_reducible assumption) | exact ng9 (by with_reducible assumption) | omega))
  k_with "room" => (first | exact room0 (by with_reducible assumption) | exact room1 (by with_reducible assumption) (by decide) | exact room2 (by with_reducible assumption) (by decide) | exact room3 (by with_reducible assumption) (by decide))
  k_with "units" => (first | exact unit0 (by with_reducible assumption) | exact unit1 (by with_reducible assumption) (by decide) | exact unit2 (by with_reducible assumption) (by decide) | exact unit3 (by with_reducible assumption) (by decide))
  k_with "om" => (first | with_reducible assumption | with_reducible exact le_lit (by with_reducible assumption) (by decide) | with_reducible exact add_lit (by with_reducible assumption) (by with_reducible assumption) (by with_reducible assumption) (by decide) | with_reducible exact lt_lel (by with_reducible assumption) (by decide) | with_reducible exact sum_lit (by with_reducible assumption) (by with_reducible assumption) (by decide) | with_reducible exact suc_lit (by with_reducible assumption) (by decide) | with_reducible exact lt_lit (by with_reducible assumption) (by decide) | with_reducible exact le_ltl (by with_reducible assumption) (by decide) | with_reducible exact ige_lit (by with_reducible assumption) (by decide) | with_reducible exact ile_lit (by with_reducible assumption) (by decide) | with_reducible exact ilt_lit (by with_reducible assumption) (by decide) | omega)
  k_with "execs cons" => (k_here; k_fold)
  k_with "execs cons" => (k_here; (with_reducible show wpAny _ _ _ _ _ (Shared.mk _ _ _ (_ + _) _)); refine toks_all ?_; intro tk; (try dsimp only))
  k_with "execs nil" => (k_here; (with_reducible show wpAny _ _ _ _ _ (Shared.mk _ _ _ (_ + _) _)); refine toks_all ?_; intro tk; (try dsimp only))
  k_with "k_all" => (first | exact allLt_ne (by assumption) | assumption | (intro p9 hp9; refine neN ?_; have h9 := ltN (ktn_ltOf (by first | assumption | exact (show _ ∧  AllLt _ _ by assumption).2 | exact (show _ ∧ _ ∧  AllLt _ _ by assumption).2.2 | exact (show _ ∧ _ ∧ _ ∧  AllLt _ _ by assumption).2.2.2 | exact (show _ ∧ _ ∧ _ ∧ _ ∧  AllLt _ _ by assumption).2.2.2.2 | exact (show _ ∧ _ ∧ _ ∧ _ ∧ _ ∧  AllLt _ _ by assumption).2.2.2.2.2 | exact (show _ ∧ _ ∧ _ ∧ _ ∧ _ ∧ _ ∧  AllLt _ _ by assumption).2.2.2.2.2.2 | exact (show _ ∧ _ ∧ _ ∧ _ ∧ _ ∧ _ ∧ _ ∧  AllLt _ _ by assumption).2.2.2.2.2.2.2 | exact (show _ ∧ _ ∧ _ ∧ _ ∧ _ ∧ _ ∧ _ ∧ _ ∧  AllLt _ _ by assumption).2.2.2.2.2.2.2.2 | exact (show _ ∧ _ ∧ _ ∧ _ ∧ _ ∧ _ ∧ _ ∧ _ ∧ _ ∧  AllLt _ _ by assumption).2.2.2.2.2.2.2.2.2 | exact (show _ ∧ _ ∧ _ ∧ _ ∧ _ ∧ _ ∧ _ ∧ _ ∧ _ ∧ _ ∧  AllLt _ _ by assumption).2.2.2.2.2.2.2.2.2.2) p9 hp9); first | exact Nat.ne_of_lt h9 | exact Nat.ne_of_gt h9 | omega))
  k_with "pyIter ref" => (refine Held.mk ?_)
  k_with "exec For Name Name cons nil" => (k_here; (rename Fr _ _ _ _ => lF'); (with_unfolding_all refine' For_invVF lF' (by exact rfl) (by exact rfl) ?_; k_whole))
  k_with "truthy ref" => (k_here; k_dflt (refine' truthyL (by k_asm) (by k_mem) (by (try simp only [strValues, List.length_map]); omega) ?_))
  k_with "subscriptTail Name Name ref str" => (k_here; (with_reducible show wpAny _ _ (subscriptTail _ _ (Value.ref _) (Value.str _ _)) _ _ _); k_dflt (refine' kda_item (knd := PySem.strKind _ _) (by k_asm) (by k_mem) (by assumption) (strKind_is _ _ _ _) (by assumption) ?_))
  k_with "k_ne" => (first | with_reducible assumption | exact Ne.symm (by with_reducible assumption) | (refine neN ?_; (try dsimp only); first | with_reducible assumption | exact Ne.symm (by with_reducible assumption) | exact Nat.ne_of_lt (by with_reducible assumption) | exact Nat.ne_of_gt (by with_reducible assumption) | exact nl0 (by with_reducible assumption) | exact ng0 (by with_reducible assumption) | exact nl1 (by with_reducible assumption) | exact ng1 (by with_reducible assumption) | exact nl2 (by with_reducible assumption) | exact ng2 (by with_reducible assumption) | exact nl3 (by with_reducible assumption) | exact ng3 (by with_reducible assumption) | exact nl4 (by with_reducible assumption) | exact ng4 (by with_reducible assumption) | exact nl5 (by with_reducible assumption) | exact ng5 (by with_reducible assumption) | exact nl6 (by with_reducible assumption) | exact ng6 (by with_reducible assumption) | exact nl7 (by with_reducible assumption) | exact ng7 (by with_reducible assumption) | exact nl8 (by with_reducible assumption) | exact ng8 (by with_reducible assumption) | exact nl9 (by with_reducible assumption) | exact ng9 (by with_reducible assumption) | omega))
  k_with "call type:bool" => (k_here; (with_reducible show wpAny _ _ (call _ [Value.ref _]) _ _ _); k_dflt (refine' boolL (by k_asm) (by k_mem) (by (try simp only [strValues, List.length_map]); omega) ?_))
  k_with "k_mem" => (first | exact List.Mem.head _ | (with_reducible assumption) | exact (show _ ∈ _ from by with_reducible assumption) | exact List.mem_append_right _ (by with_reducible assumption) | (refine' List.Mem.tail _ ?_; k_mem))
  trivial

theorem is_active_c (w : World) (mean : ExcName → Option Value) (mg mb : Str → Option Value) (self sd d D : Addr) (k1 k2 k3 k4 : Tok) (z : Int) (ta tb : Tok) (od : Obj) (infos : List Info) (rs : List (Str × Tok)) (c : Nat) (tl : Led) (hrs : rs.length ≤ 900) (ha : 0 ≤ z ∧ z ≤ 1000) :
    Tell w mean mg mb 3 24 221 [.ref self] (Srt.led w ⟨self, sd, d, k1, k2, k3, k4, .ref D, .int z ta, .int z tb, od, infos⟩ ((D, W.listOf (strValues rs).toArray c) :: tl))
      (fun v n' => n' = Srt.led w ⟨self, sd, d, k1, k2, k3, k4, .ref D, .int z ta, .int z tb, od, infos⟩ ((D, W.listOf (strValues rs).toArray c) :: tl) ∧ v = .bool (!rs.isEmpty)) := by
  unfold Tell
  k_fill
  intro dp un gd cn cs a ccd cl outer A₀ base h₀ L m
  intro s Q E B F X N T hk hdp hun hret
  refine wpAny_call ?_
  k_dflt ktr_enter
  refine wpAny_noRaise ?_
  rename Fr h₀ _ _ _ => FG0
  rename Fr _ _ _ _ => F90
  have F91 := fr_map F90 (look_one (Str.ofString "self") (.ref self))
  clear F90
  rename News _ _ _ _ => N9
  simp only [Srt.led] at N9
  have hm : (D, W.listOf (strValues rs).toArray c) ∈ objsOf infos ++ (D, W.listOf (strValues rs).toArray c) :: tl := by simp
  have hlt : decide (z < z) = false := by simp
  have hsv : (strValues rs).isEmpty = rs.isEmpty := by cases rs <;> rfl
  k_steps
  all_goals rename Fr _ _ _ _ => F8
  all_goals rename News _ _ _ _ => N8
  · rw [← hsv] at hret
    exact hret _ _ _ _ ⟨rfl, rfl⟩ (by k_asm) (by assumption)
/-- the same graph, whatever the counters -/
structure SameG (l l' : List Info) : Prop where
  kv : l'.map Info.kv = l.map Info.kv
  nm : nmL l' = nmL l
  ss : ∀ y, ssL l' y = ssL l y
  len : l'.length = l.length
theorem SameG.refl (l : List Info) : SameG l l := ⟨rfl, rfl, fun _ => rfl, rfl⟩
theorem SameG.trans {a b c : List Info} (h : SameG a b) (k : SameG b c) : SameG a c := ⟨k.kv.trans h.kv, k.nm.trans h.nm, fun y => (k.ss y).trans (h.ss y), k.len.trans h.len⟩
theorem sameG_upd {A B : List Info} {i i' : Info} (h : ((A ++ i :: B).map (·.name)).Nodup) (e : i'.name = i.name) (e2 : i'.ia = i.ia) (e3 : i'.ss = i.ss) : SameG (A ++ i :: B) (A ++ i' :: B) := by
  refine ⟨kv_upd e e2, nm_upd e, fun y => ?_, by simp⟩
  rw [ss_upd h e]
  by_cases q : y = i.name
  · rw [if_pos q, q, ss_self h, e3]
  · rw [if_neg q]
theorem Srt.Ok.same {w : World} {self sd d : Addr} {k1 k2 k3 k4 : Tok} {rv npo nfi rv' npo' nfi' : Value} {od : Obj} {l l' : List Info} (h : (Srt.mk self sd d k1 k2 k3 k4 rv npo nfi od l).Ok w) (g : SameG l l') : (Srt.mk self sd d k1 k2 k3 k4 rv' npo' nfi' od l').Ok w := by
  refine ⟨?_, h.low, ?_⟩
  · have := h.dict
    dsimp only at this ⊢
    rw [g.kv]; exact this
  · have := h.nd
    have q := g.nm
    unfold nmL at q
    dsimp only at this ⊢
    rw [q]; exact this
theorem led_split {w : World} {self sd d : Addr} {k1 k2 k3 k4 : Tok} {rv npo nfi : Value} {od : Obj} {A B : List Info} {i : Info} {tl : Led} {h₀ h : Heap} {L : Addr} (X : Led)
    (N : News h₀ L h (X ++ Srt.led w ⟨self, sd, d, k1, k2, k3, k4, rv, npo, nfi, od, A ++ i :: B⟩ tl)) : News h₀ L h (X ++ (i.objs ++ Srt.led w ⟨self, sd, d, k1, k2, k3, k4, rv, npo, nfi, od, A ++ B⟩ tl)) :=
  cb_drop N fun _ hq => (List.Perm.append_left X (srt_split w self sd d k1 k2 k3 k4 rv npo nfi od A B i tl)).symm.subset hq
theorem nd_split {w : World} {self sd d : Addr} {k1 k2 k3 k4 : Tok} {rv npo nfi : Value} {od : Obj} {A B : List Info} {i : Info} {tl : Led} (X : Led)
    (N : ND (X ++ Srt.led w ⟨self, sd, d, k1, k2, k3, k4, rv, npo, nfi, od, A ++ i :: B⟩ tl)) : ND (X ++ (i.objs ++ Srt.led w ⟨self, sd, d, k1, k2, k3, k4, rv, npo, nfi, od, A ++ B⟩ tl)) :=
  ND.perm N (List.Perm.append_left X (srt_split w self sd d k1 k2 k3 k4 rv npo nfi od A B i tl))
theorem led_join {w : World} {self sd d : Addr} {k1 k2 k3 k4 : Tok} {rv npo nfi : Value} {od : Obj} {A B : List Info} {i : Info} {tl : Led} {h₀ h : Heap} {L : Addr} (X : Led)
    (N : News h₀ L h (X ++ (i.objs ++ Srt.led w ⟨self, sd, d, k1, k2, k3, k4, rv, npo, nfi, od, A ++ B⟩ tl))) : ∃ i1, i1 = i ∧ News h₀ L h (X ++ Srt.led w ⟨self, sd, d, k1, k2, k3, k4, rv, npo, nfi, od, A ++ i1 :: B⟩ tl) :=
  ⟨i, rfl, cb_drop N fun _ hq => (List.Perm.append_left X (srt_split w self sd d k1 k2 k3 k4 rv npo nfi od A B i tl)).subset hq⟩
theorem same_addrs {w : World} {self sd d : Addr} {k1 k2 k3 k4 : Tok} {rv npo nfi rv' npo' nfi' : Value} {od od' : Obj} {A B : List Info} {i i' : Info} {tl : Led} (X : Led) (e1 : i'.ia = i.ia) (e2 : i'.dx = i.dx) (e3 : i'.sl = i.sl)
    (N : ND (X ++ Srt.led w ⟨self, sd, d, k1, k2, k3, k4, rv, npo, nfi, od, A ++ i :: B⟩ tl)) : ND (X ++ Srt.led w ⟨self, sd, d, k1, k2, k3, k4, rv', npo', nfi', od', A ++ i' :: B⟩ tl) := by
  refine nd_keys N ?_
  simp [Srt.led, objs_split, Info.objs, e1, e2, e3]
theorem lines_Grd2 : True := by
  k_with "call type:tuple" => (k_here; (with_reducible show wpAny _ _ (call (Value.type _) [Value.ref _]) _ _ _); k_dflt (refine' kde_tupleOf (by k_asm) (by k_asm) (by exact News.isList (by k_asm) (by k_mem)) (by (simp only [List.size_toArray, strValues, List.length_map]; omega)) (by exact rfl) ?_; refine Held.mk ?_))
  trivial

section
variable {prog : Program} {w : World} {A : Around} {E : Value → Shared → Prop} {s : Shared} {env : Env} {h₀ : Heap} {x : Str} {body : List Stmt} {Q : Flow → Shared → Prop}
theorem iterTupleM {l : Addr} {lo : Obj} {vs : List Value} {c : Nat} {m₀ : Str → Option Value} {news : Led} (Jm : (Str → Option Value) → Nat → (Str → Option Value) → Led → Prop)
    (hh : A.handled = none) (F : Fr h₀ env.locals s.heap m₀) (N : News h₀ env.locals s.heap news) (hl : (l, lo) ∈ news) (hc : lo.cls = .type "tuple") (hd : lo.data = .seq vs.toArray c)
    (h0 : Jm m₀ 0 m₀ news) (keep : ∀ i m n, Jm m₀ i m n → (l, lo) ∈ n)
    (turn : TurnOf prog w A E s env h₀ x body Q vs.length (fun i v => vs[i]? = some v) (Jm m₀)) (done : DoneOf s env h₀ Q vs.length (Jm m₀)) :
    wpAny (model prog w) A (pyIter (.ref l)) (fun it s₂ => LoopAtV prog w A h₀ env x body Q E it s₂) E s := iterTuple (Jm m₀) hh F N hl hc hd h0 keep turn done
theorem iterListM {l : Addr} {lo : Obj} {vs : List Value} {c : Nat} {m₀ : Str → Option Value} {news : Led} (Jm : (Str → Option Value) → Nat → (Str → Option Value) → Led → Prop)
    (hh : A.handled = none) (F : Fr h₀ env.locals s.heap m₀) (N : News h₀ env.locals s.heap news) (hl : (l, lo) ∈ news) (hc : lo.cls = .type "list") (hd : lo.data = .seq vs.toArray c)
    (h0 : Jm m₀ 0 m₀ news) (keep : ∀ i m n, Jm m₀ i m n → (l, lo) ∈ n)
    (turn : TurnOf prog w A E s env h₀ x body Q vs.length (fun i v => vs[i]? = some v) (Jm m₀)) (done : DoneOf s env h₀ Q vs.length (Jm m₀)) :
    wpAny (model prog w) A (pyIter (.ref l)) (fun it s₂ => LoopAtV prog w A h₀ env x body Q E it s₂) E s := iterList (Jm m₀) hh F N hl hc hd h0 keep turn done
end
theorem strAt2 {l : List (Str × Tok)} {i : Nat} {v : Value} (h : (strValues l)[i]? = some v) : ∃ y t, (l.map (·.1))[i]? = some y ∧ v = .str y t := by
  unfold strValues at h
  rw [List.getElem?_map] at h
  cases e : l[i]? with
  | none => rw [e] at h; cases h
  | some p => rw [e] at h; cases h; exact ⟨p.1, p.2, by rw [List.getElem?_map, e]; rfl, rfl⟩
theorem take_mem {l : List Str} {i : Nat} {y z : Str} (h : l[i]? = some y) : z ∈ l.take (i + 1) ↔ z ∈ l.take i ∨ z = y := by
  rw [List.take_add_one, h]; simp
theorem clearL {prog : Program} {w : World} {A : Around} {E : Value → Shared → Prop} {s : Shared} {h₀ : Heap} {L D : Addr} {m : Str → Option Value} {news news' : Led} {n : Nat} {rs : List (Str × Tok)} {Q : Value → Shared → Prop}
    (F : Fr h₀ L s.heap m) (N : News h₀ L s.heap news) (U : Upd D (W.listOf (strValues rs).toArray n) (W.listOf #[] (n + 1)) news news') (hne : rs ≠ []) (hz : rs.length ≤ 900)
    (h : ∀ h', Fr h₀ L h' m → News h₀ L h' news' → Q .none { s with heap := h' }) : wpAny (model prog w) A (call (.builtin "list.clear") [.ref D]) Q E s := by
  refine kl_clear F N U ?_ ?_ h
  · cases rs with
    | nil => exact absurd rfl hne
    | cons a r => simp [strValues]
  · rw [sizeLine_eq]; simp [strValues]; omega
theorem lines_Grd3 : True := by
  k_with "call builtin:list.clear" => (k_here; (with_reducible show wpAny _ _ (call (Value.builtin _) [Value.ref _]) _ _ _); k_dflt (refine' clearL (by k_asm) (by k_asm) (by k_upd) (by assumption) (by assumption) ?_; k_whole); intro h' F' N'; (try k_sweep))
  trivial

theorem lenT {prog : Program} {w : World} {A : Around} {E : Value → Shared → Prop} {s : Shared} {h₀ : Heap} {L D : Addr} {news : Led} {n k : Nat} {vs : List Value} {Q : Value → Shared → Prop}
    (N : News h₀ L s.heap news) (hp : (D, { cls := .type "tuple", data := .seq vs.toArray n }) ∈ news) (he : vs.length = k) (hz : k ≤ 100000) (h : Q (.int k (s.toks + 1)) { s with toks := s.toks + 1 + 1 }) :
    wpAny (model prog w) A (call (.builtin "len") [.ref D]) Q E s := by
  refine len_tuple (items := vs.toArray) ⟨_, (N _ hp).1, rfl, _, rfl⟩ ?_ ?_
  · simp only [List.size_toArray]; omega
  · simpa only [List.size_toArray, he] using h
theorem lines_Grd4 : True := by
  k_with "call builtin:len" => (k_here; k_dflt (first | (refine' lenT (by k_asm) (by k_mem) (by assumption) (by k_extra "om") ?_) | (refine' lenL (by k_asm) (by k_mem) (by assumption) (by k_extra "om") ?_)))
  trivial

theorem led_back {w : World} {S : Srt} {tl : Led} {p q : Addr × Obj} {h₀ h : Heap} {L : Addr} (N : News h₀ L h (p :: q :: S.led w tl)) : News h₀ L h (q :: S.led w (p :: tl)) := by
  have hp := led_tl w S [p] tl
  refine cb_drop N (fun r hr => ?_)
  rcases List.mem_cons.mp hr with rfl | hr
  · exact .tail _ (.head _)
  · rcases List.mem_cons.mp (hp.subset hr) with rfl | hr
    · exact .head _
    · exact .tail _ (.tail _ hr)
/-- the loop of get_ready after some turns -/
inductive JGet (w : World) (self sd d D R : Addr) (k1 k2 k3 k4 : Tok) (npo nfi : Value) (od : Obj) (l : List Info) (rs : List (Str × Tok)) (c : Nat) (tl : Led) (m₀ : Str → Option Value) (i : Nat) (m : Str → Option Value) (n : Led) : Prop
  | mk (l' : _)
    (u : _)
    (hz0 : SameG l l')
    (hz1 : (∀ j ∈ l', j.ss.length ≤ 900))
    (hz2 : (∀ y, npL l' y = if y ∈ (rs.map (·.1)).take i then -1 else npL l y))
    (hz3 : m = (fun y => if y = Str.ofString "node" then u else m₀ y))
    (hz4 : n = (R, { cls := .type "tuple", data := .seq (strValues rs).toArray }) :: Srt.led w ⟨self, sd, d, k1, k2, k3, k4, .ref D, npo, nfi, od, l'⟩ ((D, W.listOf (strValues rs).toArray c) :: tl))
    (hz5 : ND n)
theorem get_ready_c (w : World) (mean : ExcName → Option Value) (mg mb : Str → Option Value) (self sd d D : Addr) (k1 k2 k3 k4 : Tok) (z : Int) (ta tb : Tok) (od : Obj) (infos : List Info) (rs : List (Str × Tok)) (c : Nat) (tl : Led) (hrs : rs.length ≤ 900) (hr0 : rs ≠ []) (ha : 0 ≤ z ∧ z ≤ 1000)
    (hS : Srt.Ok w ⟨self, sd, d, k1, k2, k3, k4, .ref D, .int z ta, .int z tb, od, infos⟩) (hN : ND (Srt.led w ⟨self, sd, d, k1, k2, k3, k4, .ref D, .int z ta, .int z tb, od, infos⟩ ((D, W.listOf (strValues rs).toArray c) :: tl)))
    (hsub : ∀ y ∈ rs.map (·.1), y ∈ nmL infos) (hsl : ∀ i ∈ infos, i.ss.length ≤ 900) :
    Tell w mean mg mb 3 24 214 [.ref self] (Srt.led w ⟨self, sd, d, k1, k2, k3, k4, .ref D, .int z ta, .int z tb, od, infos⟩ ((D, W.listOf (strValues rs).toArray c) :: tl))
      (fun v n' => ∃ R l' t c', v = .ref R ∧ n' = (R, { cls := .type "tuple", data := .seq (strValues rs).toArray }) :: Srt.led w ⟨self, sd, d, k1, k2, k3, k4, .ref D, .int (z + rs.length) t, .int z tb, od, l'⟩ ((D, W.listOf #[] c') :: tl) ∧
        ND n' ∧ SameG infos l' ∧ (∀ j ∈ l', j.ss.length ≤ 900) ∧ ∀ y, npL l' y = if y ∈ rs.map (·.1) then -1 else npL infos y) := by
  unfold Tell
  k_fill
  intro dp un gd cn cs a ccd cl outer A₀ base h₀ L m
  intro s Q E B F X N T hk hdp hun hret
  refine wpAny_call ?_
  k_dflt ktr_enter
  refine wpAny_noRaise ?_
  rename Fr h₀ _ _ _ => FG0
  rename Fr _ _ _ _ => F90
  have F91 := fr_map F90 (look_one (Str.ofString "self") (.ref self))
  clear F90
  rename News _ _ _ _ => N9
  simp only [Srt.led] at N9
  have hm : (D, W.listOf (strValues rs).toArray c) ∈ objsOf infos ++ (D, W.listOf (strValues rs).toArray c) :: tl := by simp
  k_steps
  refine Held.of ?_
  intro R h1 F1 N1 l1
  clear N9
  k_steps
  refine Held.of ?_
  rename Fr _ _ _ _ => F2
  rename News _ _ _ _ => N2
  have hR : ND ((R, { cls := .type "tuple", data := .seq (strValues rs).toArray }) :: Srt.led w ⟨self, sd, d, k1, k2, k3, k4, .ref D, .int z ta, .int z tb, od, infos⟩ ((D, W.listOf (strValues rs).toArray c) :: tl)) := by
    refine nd_cons.mpr ⟨?_, hN⟩
    intro q hq
    exact Nat.ne_of_lt (l1 q hq)
  clear l1
  k_dflt (refine iterTupleM (vs := strValues rs) (JGet w self sd d D R k1 k2 k3 k4 (.int z ta) (.int z tb) od infos rs c tl) rfl F2 N2 (.head _) rfl rfl ?h0 ?keep ?turn ?done)
  case h0 => exact ⟨infos, none, SameG.refl _, hsl, by simp, by
    funext y
    by_cases hy : y = Str.ofString "node"
    · subst hy; rfl
    · rw [if_neg hy], rfl, hR⟩
  case keep =>
    intro i m n hp93
    refine Classical.byContradiction fun hn9 => ?_
    obtain ⟨l', u, _, _, _, _, rfl, _⟩ := hp93
    refine hn9 ?_
    clear hn9
    exact .head _
  case turn =>
    intro i v m₁ news₁ h tk I io hi hP hp910 hne F₁ N₁
    refine Classical.byContradiction fun hn9 => ?_
    obtain ⟨l', u, hG, hsl', hnp, rfl, rfl, hnd⟩ := hp910
    refine hn9 ?_
    clear hn9
    clear F2 N2
    refine Classical.byContradiction fun hn9 => ?_
    obtain ⟨y, ty, hy, rfl⟩ := strAt2 hP
    refine hn9 ?_
    clear hn9
    rw [ifif] at F₁
    have hOk := hS.same (rv' := .ref D) (npo' := .int z ta) (nfi' := .int z tb) hG
    have hyn : y ∈ nmL l' := by rw [hG.nm]; exact hsub y (List.mem_of_getElem? hy)
    refine Classical.byContradiction fun hn9 => ?_
    obtain ⟨j, hj, hjn, hjv, hjs⟩ := info_of hOk hyn
    refine hn9 ?_
    clear hn9
    refine Classical.byContradiction fun hn9 => ?_
    obtain ⟨A, B2, rfl⟩ := List.append_of_mem hj
    refine hn9 ?_
    clear hn9
    have hSd := hOk.dict
    dsimp only at hSd hjv
    have hnd2 := (nd_cons (p := (I, io))).mpr ⟨hne, hnd⟩
    have N3 := led_split [(I, io), (R, { cls := .type "tuple", data := .seq (strValues rs).toArray })] N₁
    have hnd3 := nd_split [(I, io), (R, { cls := .type "tuple", data := .seq (strValues rs).toArray })] hnd2
    clear N₁
    dsimp only [Info.objs, Srt.led, List.cons_append, List.nil_append] at N3 hnd3
    k_dflt (refine nd_out8 hnd3 ?_)
    intro e01 e02 e03 e04 e05 e06 e07 eR0 e12 e13 e14 e15 e16 e17 eR1 e23 e24 e25 e26 e27 eR2 e34 e35 e36 e37 eR3 e45 e46 e47 eR4 e56 e57 eR5 e67 eR6 eR7 eE
    clear hnd3
    k_steps
    rename Fr _ _ _ _ => F8
    rename News _ _ _ _ => N8
    refine Classical.byContradiction fun hn9 => ?_
    obtain ⟨j1, hj1, N9⟩ := led_join (i := { j with np := -1, npt := _ }) [(I, io), (R, { cls := .type "tuple", data := .seq (strValues rs).toArray })] N8
    refine hn9 ?_
    clear hn9
    have q1 : j1.name = j.name := by rw [hj1]
    have q2 : j1.ia = j.ia := by rw [hj1]
    have q3 : j1.ss = j.ss := by rw [hj1]
    have q4 : j1.np = -1 := by rw [hj1]
    have q5 : j1.dx = j.dx := by rw [hj1]
    have q6 : j1.sl = j.sl := by rw [hj1]
    have hnd6 := same_addrs (rv' := .ref D) (npo' := .int z ta) (nfi' := .int z tb) (od' := od) [(I, io), (R, { cls := .type "tuple", data := .seq (strValues rs).toArray })] q2 q5 q6 hnd2
    refine TurnEnd.fin (.inl rfl) F8 N9 (nd_cons.mp hnd6).1 ⟨A ++ j1 :: B2, _, hG.trans (sameG_upd hOk.nd q1 q2 q3), mid_all hsl' (by rw [q3]; exact hsl' j (by simp)), ?_, rfl, rfl, (nd_cons.mp hnd6).2⟩
    intro z'
    rw [np_upd hOk.nd q1, hnp, q4, hjn]
    by_cases e : z' = y
    · rw [if_pos e, if_pos ((take_mem hy).mpr (.inr e))]
    · rw [if_neg e]
      by_cases e2 : z' ∈ (rs.map (·.1)).take i
      · rw [if_pos e2, if_pos ((take_mem hy).mpr (.inl e2))]
      · rw [if_neg e2, if_neg (fun q => ((take_mem hy).mp q).elim e2 e)]
  case done =>
    intro m₁ news₁ h tk hp94 F₁ N₁
    refine Classical.byContradiction fun hn9 => ?_
    obtain ⟨l', u, hG, hsl', hnp, rfl, rfl, hnd⟩ := hp94
    refine hn9 ?_
    clear hn9
    clear F2 N2
    have hp := led_tl w ⟨self, sd, d, k1, k2, k3, k4, .ref D, .int z ta, .int z tb, od, l'⟩ [(D, W.listOf (strValues rs).toArray c)] tl
    have N3 : News _ _ _ ((D, W.listOf (strValues rs).toArray c) :: (R, { cls := .type "tuple", data := .seq (strValues rs).toArray }) :: Srt.led w ⟨self, sd, d, k1, k2, k3, k4, .ref D, .int z ta, .int z tb, od, l'⟩ tl) := cb_drop N₁ (fun q hq => by
      rcases List.mem_cons.mp hq with rfl | hq
      · exact .tail _ (hp.symm.subset (.head _))
      · rcases List.mem_cons.mp hq with rfl | hq
        · exact .head _
        · exact .tail _ (hp.symm.subset (.tail _ hq)))
    have hnd3 : ND ((D, W.listOf (strValues rs).toArray c) :: (R, { cls := .type "tuple", data := .seq (strValues rs).toArray }) :: Srt.led w ⟨self, sd, d, k1, k2, k3, k4, .ref D, .int z ta, .int z tb, od, l'⟩ tl) := by
      refine ND.perm hnd ?_
      exact (List.Perm.cons _ hp).trans (List.Perm.swap _ _ _)
    clear N₁
    have hnd5 := hnd3
    dsimp only [Srt.led] at N3
    k_dflt (refine nd_out5 hnd3 ?_)
    intro e01 e02 e03 e04 eR0 e12 e13 e14 eR1 e23 e24 eR2 e34 eR3 eR4 eE
    clear hnd3
    have hvl : (strValues rs).length = rs.length := by simp [strValues]
    k_steps
    rename News _ _ _ _ => kN
    have N9 := led_back (S := ⟨self, sd, d, k1, k2, k3, k4, .ref D, _, _, od, l'⟩) kN
    refine hret _ _ _ _ ⟨R, l', _, _, rfl, rfl, nd_keys hnd (by simp [Srt.led]), hG, hsl', ?_⟩ (by k_asm) N9
    intro y
    rw [hnp, List.take_of_length_le (by simp [hvl])]
end Mine
-- Dn
open PySem PySem.W PySem.Calls PyProof.Rows
namespace Mine


theorem lines_Dn1 : True := by
  k_with_none
  k_with "k_ne" => (first | with_reducible assumption | exact Ne.symm (by with_reducible assumption) | (refine neN ?_; (try dsimp only); first | with_reducible assumption | exact Ne.symm (by with_reducible assumption) | exact Nat.ne_of_lt (by with_reducible assumption) | exact Nat.ne_of_gt (by with_reducible assumption) | exact nl0 (by with_reducible assumption) | exact ng0 (by with_reducible assumption) | exact nl1 (by with_reducible assumption) | exact ng1 (by with_reducible assumption) | exact nl2 (by with_reducible assumption) | exact ng2 (by with_reducible assumption) | exact nl3 (by with_reducible assumption) | exact ng3 (by with_reducible assumption) | exact nl4 (by with_reducible assumption) | exact ng4 (by with_reducible assumption) | exact nl5 (by with_reducible assumption) | exact ng5 (by with_reducible assumption) | exact nl6 (by with_reducible assumption) | exact ng6 (by with_reducible assumption) | exact nl7 (by with_reducible assumption) | exact ng7 (by with_reducible assumption) | exact nl8 (by with_reducible assumption) | exact ng8 (by with_reducible assumption) | exact nl9 (by with_reducible assumption) | exact ng9 (by with_reducible assumption) | omega))
  k_with "room" => (first | exact room0 (by with_reducible assumption) | exact room1 (by with_reducible assumption) (by decide) | exact room2 (by with_reducible assumption) (by decide) | exact room3 (by with_reducible assumption) (by decide))
  k_with "units" => (first | exact unit0 (by with_reducible assumption) | exact unit1 (by with_reducible assumption) (by decide) | exact unit2 (by with_reducible assumption) (by decide) | exact unit3 (by with_reducible assumption) (by decide))
  k_with "om" => (first | with_reducible assumption | with_reducible exact le_lit (by with_reducible assumption) (by decide) | with_reducible exact add_lit (by with_reducible assumption) (by with_reducible assumption) (by with_reducible assumption) (by decide) | with_reducible exact lt_lel (by with_reducible assumption) (by decide) | with_reducible exact sum_lit (by with_reducible assumption) (by with_reducible assumption) (by decide) | with_reducible exact suc_lit (by with_reducible assumption) (by decide) | with_reducible exact lt_lit (by with_reducible assumption) (by decide) | with_reducible exact le_ltl (by with_reducible assumption) (by decide) | with_reducible exact ige_lit (by with_reducible assumption) (by decide) | with_reducible exact ile_lit (by with_reducible assumption) (by decide) | with_reducible exact ilt_lit (by with_reducible assumption) (by decide) | omega)
  k_with "execs cons" => (k_here; (with_reducible show wpAny _ _ _ _ _ (Shared.mk _ _ _ (_ + _) _)); refine toks_all ?_; intro tk; (try dsimp only))
  k_with "execs nil" => (k_here; (with_reducible show wpAny _ _ _ _ _ (Shared.mk _ _ _ (_ + _) _)); refine toks_all ?_; intro tk; (try dsimp only))
  k_with "eval BinOp" => (k_here; k_fold)
  k_with "eval Call Attribute" => (k_here; k_fold)
  k_with "eval Call Name" => (k_here; k_fold)
  k_with "eval Call" => (k_here; k_fold)
  k_with "eval Subscript" => (k_here; k_fold)
  k_with "eval Compare" => (k_here; k_fold)
  k_with "eval IfExp" => (k_here; k_fold)
  k_with "eval List" => (k_here; k_fold)
  k_with "eval Tuple" => (k_here; k_fold)
  k_with "k_all" => (first | exact allLt_ne (by assumption) | assumption | (intro p9 hp9; refine neN ?_; have h9 := ltN (ktn_ltOf (by first | assumption | exact (show _ ∧  AllLt _ _ by assumption).2 | exact (show _ ∧ _ ∧  AllLt _ _ by assumption).2.2 | exact (show _ ∧ _ ∧ _ ∧  AllLt _ _ by assumption).2.2.2 | exact (show _ ∧ _ ∧ _ ∧ _ ∧  AllLt _ _ by assumption).2.2.2.2 | exact (show _ ∧ _ ∧ _ ∧ _ ∧ _ ∧  AllLt _ _ by assumption).2.2.2.2.2 | exact (show _ ∧ _ ∧ _ ∧ _ ∧ _ ∧ _ ∧  AllLt _ _ by assumption).2.2.2.2.2.2 | exact (show _ ∧ _ ∧ _ ∧ _ ∧ _ ∧ _ ∧ _ ∧  AllLt _ _ by assumption).2.2.2.2.2.2.2 | exact (show _ ∧ _ ∧ _ ∧ _ ∧ _ ∧ _ ∧ _ ∧ _ ∧  AllLt _ _ by assumption).2.2.2.2.2.2.2.2 | exact (show _ ∧ _ ∧ _ ∧ _ ∧ _ ∧ _ ∧ _ ∧ _ ∧ _ ∧  AllLt _ _ by assumption).2.2.2.2.2.2.2.2.2 | exact (show _ ∧ _ ∧ _ ∧ _ ∧ _ ∧ _ ∧ _ ∧ _ ∧ _ ∧ _ ∧  AllLt _ _ by assumption).2.2.2.2.2.2.2.2.2.2) p9 hp9); first | exact Nat.ne_of_lt h9 | exact Nat.ne_of_gt h9 | omega))
  k_with "pyIter ref" => (refine Held.mk ?_)
  k_with "exec For Name Name cons nil" => (k_here; (rename Fr _ _ _ _ => lF'); (with_unfolding_all refine' For_invVF lF' (by exact rfl) (by exact rfl) ?_; k_whole))
  k_with "exec For Name Attribute cons nil" => (k_here; (rename Fr _ _ _ _ => lF'); (with_unfolding_all refine' For_invVF lF' (by exact rfl) (by exact rfl) ?_; k_whole))
  k_with "subscriptTail Name Name ref str" => (k_here; (with_reducible show wpAny _ _ (subscriptTail _ _ (Value.ref _) (Value.str _ _)) _ _ _); k_dflt (refine' kda_item (knd := PySem.strKind _ _) (by k_asm) (by k_mem) (by assumption) (strKind_is _ _ _ _) (by assumption) ?_))
  k_with "call builtin:dict.get" => (k_here; k_dflt (refine' getSome (by k_asm) (by k_mem) (by k_asm) (by assumption) (by assumption) ?_))
  k_with "call builtin:list.append" => (k_here; k_dflt (refine' appendL (by k_asm) (by k_asm) (by k_upd) (by k_extra "om") ?_; k_whole); intro h' F' N'; (try k_sweep))
  k_with "k_ne" => (first | with_reducible assumption | exact Ne.symm (by with_reducible assumption) | (refine neN ?_; (try dsimp only); first | with_reducible assumption | exact Ne.symm (by with_reducible assumption) | exact Nat.ne_of_lt (by with_reducible assumption) | exact Nat.ne_of_gt (by with_reducible assumption) | exact nl0 (by with_reducible assumption) | exact ng0 (by with_reducible assumption) | exact nl1 (by with_reducible assumption) | exact ng1 (by with_reducible assumption) | exact nl2 (by with_reducible assumption) | exact ng2 (by with_reducible assumption) | exact nl3 (by with_reducible assumption) | exact ng3 (by with_reducible assumption) | exact nl4 (by with_reducible assumption) | exact ng4 (by with_reducible assumption) | exact nl5 (by with_reducible assumption) | exact ng5 (by with_reducible assumption) | exact nl6 (by with_reducible assumption) | exact ng6 (by with_reducible assumption) | exact nl7 (by with_reducible assumption) | exact ng7 (by with_reducible assumption) | exact nl8 (by with_reducible assumption) | exact ng8 (by with_reducible assumption) | exact nl9 (by with_reducible assumption) | exact ng9 (by with_reducible assumption) | omega))
  k_with "k_mem" => (first | exact List.Mem.head _ | (with_reducible assumption) | exact (show _ ∈ _ from by with_reducible assumption) | exact List.mem_append_right _ (by with_reducible assumption) | (refine' List.Mem.tail _ ?_; k_mem))
  trivial

/-- the loop over the successors, before its i-th turn -/
inductive JDone (w : World) (E : List (Str × Str)) (names fin out : List Str) (self sd d D : Addr) (k1 k2 k3 k4 : Tok) (npo nfi : Value) (od : Obj) (infos : List Info) (j : Info) (X : Led) (tl : Led) (m₀ : Str → Option Value) (i : Nat) (m : Str → Option Value) (n : Led) : Prop
  | mk (l' : _)
    (rs : _)
    (c : _)
    (u1 : _)
    (u2 : _)
    (hz0 : SameG infos l')
    (hz1 : (∀ i ∈ l', i.ss.length ≤ 900))
    (hz2 : KI E names fin out (rs.map (·.1)) ((j.ss.map (·.1)).drop i) (npL l'))
    (hz3 : (j.sl, W.listOf (strValues j.ss).toArray j.sc) ∈ objsOf l')
    (hz4 : m = (fun y => if y = Str.ofString "successor_info" then u2 else if y = Str.ofString "successor" then u1 else m₀ y))
    (hz5 : n = (D, W.listOf (strValues rs).toArray c) :: (X ++ Srt.led w ⟨self, sd, d, k1, k2, k3, k4, .ref D, npo, nfi, od, l'⟩ tl))
    (hz6 : ND n)
inductive DonePost (w : World) (E : List (Str × Str)) (names fin out : List Str) (self sd d D : Addr) (k1 k2 k3 k4 : Tok) (npo : Value) (z : Int) (od : Obj) (infos : List Info) (tl : Led) (v : Value) (n' : Led) : Prop
  | mk (l' : _)
    (rs' : _)
    (c' : _)
    (t' : _)
    (hz0 : v = .none)
    (hz1 : n' = (D, W.listOf (strValues rs').toArray c') :: Srt.led w ⟨self, sd, d, k1, k2, k3, k4, .ref D, npo, .int z t', od, l'⟩ tl)
    (hz2 : ND n')
    (hz3 : SameG infos l')
    (hz4 : (∀ j ∈ l', j.ss.length ≤ 900))
    (hz5 : KI E names fin out (rs'.map (·.1)) [] (npL l'))
theorem ki_ready_len {E : List (Str × Str)} {names fin out ready R : List Str} {np : Str → Int} (h : KI E names fin out ready R np) : ready.length ≤ names.length := by
  refine len_sub ?_ (fun y hy => h.sub y (by simp [hy]))
  have := h.nd
  rw [List.nodup_append] at this
  have := this.2.1
  rw [List.nodup_append] at this
  exact this.2.1
theorem map_two {m₀ : Str → Option Value} {a b : Str} : m₀ = fun y => if y = b then m₀ b else if y = a then m₀ a else m₀ y := by
  funext y
  by_cases h1 : y = b
  · rw [if_pos h1, h1]
  · rw [if_neg h1]
    by_cases h2 : y = a
    · rw [if_pos h2, h2]
    · rw [if_neg h2]
theorem map_four {m₀ : Str → Option Value} {a b : Str} {v1 v2 u1 u2 : Option Value} : (fun y => if y = b then v2 else if y = a then v1 else if y = b then u2 else if y = a then u1 else m₀ y) = fun y => if y = b then v2 else if y = a then v1 else m₀ y := by
  funext y
  by_cases h1 : y = b
  · simp [h1]
  · by_cases h2 : y = a
    · simp [h2]
    · simp [h1, h2]
theorem unrot {w : World} {S : Srt} {tl : Led} {a b c : Addr × Obj} {h₀ h : Heap} {L : Addr} (N : News h₀ L h (c :: a :: b :: S.led w tl)) : News h₀ L h (a :: b :: c :: S.led w tl) :=
  cb_drop N (fun q hq => by
    simp only [List.mem_cons] at hq ⊢
    rcases hq with h | h | h | h
    · exact .inr (.inl h)
    · exact .inr (.inr (.inl h))
    · exact .inl h
    · exact .inr (.inr (.inr h)))
theorem nd_off {I : Addr} {io : Obj} {l l' : Led} (h : ND ((I, io) :: l)) (e : l'.map (·.1) = l.map (·.1)) : ∀ q ∈ l', q.1 ≠ I :=
  (nd_cons (p := (I, io)).mp (nd_keys h (l' := (I, io) :: l') (by rw [List.map_cons, List.map_cons, e]))).1
theorem rot3 (a b c : Addr × Obj) (l : Led) : (a :: b :: c :: l).Perm (c :: a :: b :: l) :=
  ((List.Perm.cons a (List.Perm.swap c b l))).trans (List.Perm.swap c a (b :: l))
theorem slot_same {A B : List Info} {i i' : Info} {p : Addr × Obj} (e1 : i'.sl = i.sl) (e2 : i'.ss = i.ss) (e3 : i'.sc = i.sc) (hx : ∀ q, p ≠ (q, infoO i.dx (.str i.name i.nt) (.int i.np i.npt) i.sl)) (e4 : i'.dx = i.dx)
    (h : p ∈ objsOf (A ++ i :: B)) : p ∈ objsOf (A ++ i' :: B) := by
  rw [objs_split] at h ⊢
  simp only [List.mem_append, Info.objs, List.mem_cons, List.not_mem_nil, or_false] at h ⊢
  rcases h with h | (h | h | h) | h
  · exact .inl h
  · exact absurd h (hx _)
  · exact .inr (.inl (.inr (.inl (by rw [e4]; exact h))))
  · exact .inr (.inl (.inr (.inr (by rw [e1, e2, e3]; exact h))))
  · exact .inr (.inr h)
theorem done_c (w : World) (mean : ExcName → Option Value) (mg mb : Str → Option Value) (self sd d D : Addr) (k1 k2 k3 k4 : Tok) (npo : Value) (z : Int) (t4 : Tok) (od : Obj) (infos : List Info) (rs : List (Str × Tok)) (c : Nat) (tl : Led) (x : Str) (tx : Tok) (Eg : List (Str × Str)) (names fin out : List Str)
    (hS : Srt.Ok w ⟨self, sd, d, k1, k2, k3, k4, .ref D, npo, .int z t4, od, infos⟩) (hN : ND ((D, W.listOf (strValues rs).toArray c) :: Srt.led w ⟨self, sd, d, k1, k2, k3, k4, .ref D, npo, .int z t4, od, infos⟩ tl)) (hz : 0 ≤ z ∧ z ≤ 1000)
    (hK : KI Eg names fin (x :: out) (rs.map (·.1)) [] (npL infos)) (hss : ∀ y, ssL infos y = ssE Eg y) (hnm : nmL infos = names) (hE : ∀ e ∈ Eg, e.1 ∈ names) (hln : names.length ≤ 900) (hsl : ∀ i ∈ infos, i.ss.length ≤ 900) :
    Tell w mean mg mb 3 24 235 [.ref self, .str x tx] ((D, W.listOf (strValues rs).toArray c) :: Srt.led w ⟨self, sd, d, k1, k2, k3, k4, .ref D, npo, .int z t4, od, infos⟩ tl)
      (DonePost w Eg names (fin ++ [x]) out self sd d D k1 k2 k3 k4 npo (z + 1) od infos tl) := by
  unfold Tell
  k_fill
  intro dp un gd cn cs a ccd cl outer A₀ base h₀ L m
  intro s Q E B F X N T hk hdp hun hret
  refine wpAny_call ?_
  k_dflt (refine' kpc_rest ?k1 ?k2 ?k3 ?k4 ?k5 ?kA ?kF ?kK ?k6 ?k7 ?k8 ?kV ?kP ?kG ?kB ?_ ?c2 ?c3 ?c4 ?c5; (case kA => exact rfl); (case kF => exact rfl); (case kK => assumption); (case k1 => k_asm); (case k2 => k_asm); (case k3 => k_asm); (case k4 => k_asm); (case k5 => k_asm); (case k6 => k_is); (case k7 => k_is); (case k8 => ktr_room); (case kV => kl_lit); (case kP => exact rfl); (case kG => exact fun _ => rfl); (case kB => exact fun _ => locs rfl); (case c5 => decide); (case c2 => exact rfl); (case c3 => exact rfl); (case c4 => exact rfl); k_whole; intro D' g' L' h' l1 FG' F' N' B' X' T'; (try k_lt l1); (try dsimp only); (try k_fold))
  refine wpAny_noRaise ?_
  have hxn : x ∈ nmL infos := by rw [hnm]; exact hK.sub x (by simp)
  refine Classical.byContradiction fun hn9 => ?_
  obtain ⟨j, hj, hjn, hjv, hjs⟩ := info_of hS hxn
  refine hn9 ?_
  clear hn9
  have hmj := mem_objs hj (p := (j.sl, W.listOf (strValues j.ss).toArray j.sc)) (by simp [Info.objs])
  refine Classical.byContradiction fun hn9 => ?_
  obtain ⟨A, B2, rfl⟩ := List.append_of_mem hj
  refine hn9 ?_
  clear hn9
  have hSd := hS.dict
  have hlow := hS.low
  dsimp only at hSd hjv hlow
  have hjnp : j.np = -1 := by
    have h1 := hK.npo x (.head _)
    rw [← hjn, np_self hS.nd] at h1
    exact h1
  have hst : (j.np != -1) = false := by rw [hjnp]; rfl
  have hD : ND ((D', { cls := .type "tuple", data := .seq #[.str x tx] }) :: (D, W.listOf (strValues rs).toArray c) :: Srt.led w ⟨self, sd, d, k1, k2, k3, k4, .ref D, npo, .int z t4, od, A ++ j :: B2⟩ tl) := by
    refine nd_cons.mpr ⟨?_, hN⟩
    refine Classical.byContradiction fun hn9 => ?_
    obtain ⟨l1, l2, l3, l4, l5⟩ := l1
    refine hn9 ?_
    clear hn9
    intro q hq
    simp only [Srt.led, List.mem_cons] at hq
    rcases hq with rfl | rfl | rfl | rfl | hq
    · exact Nat.ne_of_lt l1
    · exact Nat.ne_of_lt l2
    · exact Nat.ne_of_lt l3
    · exact Nat.ne_of_lt l4
    · exact Nat.ne_of_lt (ktn_ltOf l5 q hq)
  dsimp only [Srt.led] at N'
  k_steps
  refine Held.of ?_
  rename Fr _ _ _ _ => F2
  rename News _ _ _ _ => N2
  refine iterOne (fun _ n => ∃ n1, DonePost w Eg names (fin ++ [x]) out self sd d D k1 k2 k3 k4 npo (z + 1) od (A ++ j :: B2) tl .none n1 ∧ n = (D', { cls := .type "tuple", data := .seq #[.str x tx] }) :: n1 ∧ ND n) rfl F2 N2 (.head _) ?keep ?turn ?done
  case keep =>
    intro m n hp92
    refine Classical.byContradiction fun hn9 => ?_
    obtain ⟨n1, _, rfl, _⟩ := hp92
    refine hn9 ?_
    clear hn9
    exact .head _
  case turn =>
    intro h tk I io hI F₁ N₁
    clear F2 N2
    have hT : ND ((I, io) :: (D', { cls := .type "tuple", data := .seq #[.str x tx] }) :: (D, W.listOf (strValues rs).toArray c) :: Srt.led w ⟨self, sd, d, k1, k2, k3, k4, .ref D, npo, .int z t4, od, A ++ j :: B2⟩ tl) := nd_cons.mpr ⟨hI, hD⟩
    have hP3 := rot3 (I, io) (D', { cls := .type "tuple", data := .seq #[.str x tx] }) (D, W.listOf (strValues rs).toArray c) (Srt.led w ⟨self, sd, d, k1, k2, k3, k4, .ref D, npo, .int z t4, od, A ++ j :: B2⟩ tl)
    have hT2 := ND.perm hT hP3
    have N3 := led_split [(D, W.listOf (strValues rs).toArray c), (I, io), (D', { cls := .type "tuple", data := .seq #[.str x tx] })] (cb_drop N₁ (fun q hq => hP3.symm.subset hq))
    have hT3 := nd_split [(D, W.listOf (strValues rs).toArray c), (I, io), (D', { cls := .type "tuple", data := .seq #[.str x tx] })] hT2
    clear N₁
    dsimp only [Info.objs, Srt.led, List.cons_append, List.nil_append] at N3 hT3
    k_dflt (refine nd_out9 hT3 ?_)
    intro e01 e02 e03 e04 e05 e06 e07 e08 eR0 e12 e13 e14 e15 e16 e17 e18 eR1 e23 e24 e25 e26 e27 e28 eR2 e34 e35 e36 e37 e38 eR3 e45 e46 e47 e48 eR4 e56 e57 e58 eR5 e67 e68 eR6 e78 eR7 eR8 eE
    clear hT3
    k_steps
    refine Held.of ?_
    rename Fr _ _ _ _ => F4
    rename News _ _ _ _ => N4
    refine Classical.byContradiction fun hn9 => ?_
    obtain ⟨j1, hj1, N5⟩ := led_join (i := { j with np := -2, npt := _ }) [(D, W.listOf (strValues rs).toArray c), (I, io), (D', { cls := .type "tuple", data := .seq #[.str x tx] })] N4
    refine hn9 ?_
    clear hn9
    have q1 : j1.name = j.name := by rw [hj1]
    have q2 : j1.ia = j.ia := by rw [hj1]
    have q3 : j1.ss = j.ss := by rw [hj1]
    have q4 : j1.np = -2 := by rw [hj1]
    have q5 : j1.dx = j.dx := by rw [hj1]
    have q6 : j1.sl = j.sl := by rw [hj1]
    have q7 : j1.sc = j.sc := by rw [hj1]
    have hT5 := same_addrs (i' := j1) (rv' := .ref D) (npo' := npo) (nfi' := .int z t4) (od' := od) [(D, W.listOf (strValues rs).toArray c), (I, io), (D', { cls := .type "tuple", data := .seq #[.str x tx] })] q2 q5 q6 hT2
    have hG1 := sameG_upd (i' := j1) hS.nd q1 q2 q3
    have hsl1 := mid_all (i' := j1) hsl (by rw [q3]; exact hsl j (by simp))
    have hssx : j.ss.map (·.1) = ssE Eg x := by rw [← hjs, hss]
    have hK1 : KI Eg names (fin ++ [x]) out (rs.map (·.1)) (j.ss.map (·.1)) (npL (A ++ j1 :: B2)) := by
      rw [hssx]
      refine ki_done hK (fun y => ?_)
      rw [np_upd hS.nd q1, q4, hjn]
    have hmj1 : (j.sl, W.listOf (strValues j.ss).toArray j.sc) ∈ objsOf (A ++ j1 :: B2) := by
      rw [← q3, ← q6, ← q7]
      exact mem_objs (i := j1) (by simp) (by simp [Info.objs])
    clear N4 e01 e02 e03 e04 e05 e06 e07 e08 e12 e13 e14 e15 e16 e17 e18 e23 e24 e25 e26 e27 e28 e34 e35 e36 e37 e38 e45 e46 e47 e48 e56 e57 e58 e67 e68 e78 eR0 eR1 eR2 eR3 eR4 eR5 eR6 eR7 eR8 eE
    clear hj1 hmj hst hjnp
    k_dflt (refine iterListM (lo := W.listOf (strValues j.ss).toArray j.sc) (vs := strValues j.ss) (JDone w Eg names (fin ++ [x]) out self sd d D k1 k2 k3 k4 npo (.int z t4) od (A ++ j :: B2) j [(I, io), (D', { cls := .type "tuple", data := .seq #[.str x tx] })] tl) rfl F4 N5 ?ml rfl rfl ?j0 ?jkeep ?jturn ?jdone)
    case ml => exact .tail _ (.tail _ (.tail _ (.tail _ (.tail _ (.tail _ (List.mem_append_left _ hmj1))))))
    case j0 =>
      exact ⟨A ++ j1 :: B2, rs, c, _, _, hG1, hsl1, by simpa using hK1, hmj1, map_two, rfl, hT5⟩
    case jkeep =>
      intro i m n hp93
      refine Classical.byContradiction fun hn9 => ?_
      obtain ⟨l', rs', c', u1, u2, _, _, _, hm9, _, rfl, _⟩ := hp93
      refine hn9 ?_
      clear hn9
      simp [hm9]
    case jturn =>
      intro i v m₁ news₁ h tk I2 io2 hi hP hp910 hne F₁ N₁
      refine Classical.byContradiction fun hn9 => ?_
      obtain ⟨l', rs', c', u1, u2, hG2, hsl2, hK2, hm2, rfl, rfl, hnd2⟩ := hp910
      refine hn9 ?_
      clear hn9
      clear F4 N5
      refine Classical.byContradiction fun hn9 => ?_
      obtain ⟨y, ty, hy, rfl⟩ := strAt2 hP
      refine hn9 ?_
      clear hn9
      have hdrop : (j.ss.map (·.1)).drop i = y :: (j.ss.map (·.1)).drop (i + 1) := by
        refine Classical.byContradiction fun hn9 => ?_
        obtain ⟨hlt, hge⟩ := List.getElem?_eq_some_iff.mp hy
        refine hn9 ?_
        clear hn9
        rw [List.drop_eq_getElem_cons hlt, hge]
      rw [hdrop] at hK2
      have hyE : (y, x) ∈ Eg := ssE_mem.mp (by rw [← hssx]; exact List.mem_of_getElem? hy)
      have hyN : y ∈ names := hE _ hyE
      have hOk2 := hS.same (rv' := .ref D) (npo' := npo) (nfi' := .int z t4) hG2
      have hyn : y ∈ nmL l' := by rw [hG2.nm, hnm]; exact hyN
      refine Classical.byContradiction fun hn9 => ?_
      obtain ⟨j2, hj2, hjn2, hjv2, hjs2⟩ := info_of hOk2 hyn
      refine hn9 ?_
      clear hn9
      refine Classical.byContradiction fun hn9 => ?_
      obtain ⟨A', B', rfl⟩ := List.append_of_mem hj2
      refine hn9 ?_
      clear hn9
      have hSd2 := hOk2.dict
      dsimp only at hSd2 hjv2
      have hnp2 : npL (A' ++ j2 :: B') y = j2.np := by rw [← hjn2]; exact np_self hOk2.nd
      have hvl : (strValues rs').length ≤ 900 := by
        have := ki_ready_len hK2
        simp only [List.length_map] at this
        simp only [strValues, List.length_map]
        omega
      have hnd3 := (nd_cons (p := (I2, io2))).mpr ⟨hne, hnd2⟩
      have N3 := led_split [(I2, io2), (D, W.listOf (strValues rs').toArray c'), (I, io), (D', { cls := .type "tuple", data := .seq #[.str x tx] })] N₁
      have hT7 := nd_split [(I2, io2), (D, W.listOf (strValues rs').toArray c'), (I, io), (D', { cls := .type "tuple", data := .seq #[.str x tx] })] hnd3
      clear N₁
      dsimp only [Info.objs, Srt.led, List.cons_append, List.nil_append] at N3 hT7
      k_dflt (refine nd_out10 hT7 ?_)
      intro e01 e02 e03 e04 e05 e06 e07 e08 e09 eR0 e12 e13 e14 e15 e16 e17 e18 e19 eR1 e23 e24 e25 e26 e27 e28 e29 eR2 e34 e35 e36 e37 e38 e39 eR3 e45 e46 e47 e48 e49 eR4 e56 e57 e58 e59 eR5 e67 e68 e69 eR6 e78 e79 eR7 e89 eR8 eR9 eE
      clear hT7
      cases hzz : (j2.np - 1 == 0) with
      | true =>
        k_steps
        rename Fr _ _ _ _ => F8
        rename News _ _ _ _ => N8
        rw [strValues_snoc] at N8
        refine Classical.byContradiction fun hn9 => ?_
        obtain ⟨j3, hj3, N9⟩ := led_join (i := { j2 with np := j2.np - 1, npt := _ }) [(I2, io2), (D, W.listOf (strValues (rs' ++ [(y, ty)])).toArray (c' + 1)), (I, io), (D', { cls := .type "tuple", data := .seq #[.str x tx] })] N8
        refine hn9 ?_
        clear hn9
        have p1 : j3.name = j2.name := by rw [hj3]
        have p2 : j3.ia = j2.ia := by rw [hj3]
        have p3 : j3.ss = j2.ss := by rw [hj3]
        have p4 : j3.np = j2.np - 1 := by rw [hj3]
        have p5 : j3.dx = j2.dx := by rw [hj3]
        have p6 : j3.sl = j2.sl := by rw [hj3]
        have p7 : j3.sc = j2.sc := by rw [hj3]
        have hnd9 := same_addrs (i' := j3) (rv' := .ref D) (npo' := npo) (nfi' := .int z t4) (od' := od) [(I2, io2), (D, W.listOf (strValues rs').toArray c'), (I, io), (D', { cls := .type "tuple", data := .seq #[.str x tx] })] p2 p5 p6 hnd3
        have hm9 : (j.sl, W.listOf (strValues j.ss).toArray j.sc) ∈ objsOf (A' ++ j3 :: B') := slot_same p6 p3 p7 (fun q e => by
          have := congrArg (fun p : Addr × Obj => p.2.cls) e
          cases this) p5 (by assumption)
        have hnp9 : ∀ q, npL (A' ++ j3 :: B') q = if q = y then npL (A' ++ j2 :: B') y - 1 else npL (A' ++ j2 :: B') q := by
          intro q
          rw [np_upd hOk2.nd p1, p4, hjn2, hnp2]
        have hG9 := hG2.trans (sameG_upd (i' := j3) hOk2.nd p1 p2 p3)
        have hsl9 := mid_all (i' := j3) hsl2 (by rw [p3]; exact hsl2 j2 (by simp))
        have hK3 := ki_succ_ready hK2 hyN (by rw [hnp2]; simpa using hzz) hnp9
        have hnd10 := nd_cons.mp (nd_keys hnd9 (l' := [(I2, io2), (D, W.listOf (strValues (rs' ++ [(y, ty)])).toArray (c' + 1)), (I, io), (D', { cls := .type "tuple", data := .seq #[.str x tx] })] ++ Srt.led w ⟨self, sd, d, k1, k2, k3, k4, .ref D, npo, .int z t4, od, A' ++ j3 :: B'⟩ tl) rfl)
        exact TurnEnd.fin (.inl rfl) F8 N9 hnd10.1 ⟨A' ++ j3 :: B', rs' ++ [(y, ty)], c' + 1, _, _, hG9, hsl9, by simpa using hK3, hm9, map_four, rfl, hnd10.2⟩
      | false =>
        k_steps
        rename Fr _ _ _ _ => F8
        rename News _ _ _ _ => N8
        refine Classical.byContradiction fun hn9 => ?_
        obtain ⟨j3, hj3, N9⟩ := led_join (i := { j2 with np := j2.np - 1, npt := _ }) [(I2, io2), (D, W.listOf (strValues rs').toArray c'), (I, io), (D', { cls := .type "tuple", data := .seq #[.str x tx] })] N8
        refine hn9 ?_
        clear hn9
        have p1 : j3.name = j2.name := by rw [hj3]
        have p2 : j3.ia = j2.ia := by rw [hj3]
        have p3 : j3.ss = j2.ss := by rw [hj3]
        have p4 : j3.np = j2.np - 1 := by rw [hj3]
        have p5 : j3.dx = j2.dx := by rw [hj3]
        have p6 : j3.sl = j2.sl := by rw [hj3]
        have p7 : j3.sc = j2.sc := by rw [hj3]
        have hnd9 := same_addrs (i' := j3) (rv' := .ref D) (npo' := npo) (nfi' := .int z t4) (od' := od) [(I2, io2), (D, W.listOf (strValues rs').toArray c'), (I, io), (D', { cls := .type "tuple", data := .seq #[.str x tx] })] p2 p5 p6 hnd3
        have hm9 : (j.sl, W.listOf (strValues j.ss).toArray j.sc) ∈ objsOf (A' ++ j3 :: B') := slot_same p6 p3 p7 (fun q e => by
          have := congrArg (fun p : Addr × Obj => p.2.cls) e
          cases this) p5 (by assumption)
        have hnp9 : ∀ q, npL (A' ++ j3 :: B') q = if q = y then npL (A' ++ j2 :: B') y - 1 else npL (A' ++ j2 :: B') q := by
          intro q
          rw [np_upd hOk2.nd p1, p4, hjn2, hnp2]
        have hG9 := hG2.trans (sameG_upd (i' := j3) hOk2.nd p1 p2 p3)
        have hsl9 := mid_all (i' := j3) hsl2 (by rw [p3]; exact hsl2 j2 (by simp))
        have hK3 := ki_succ_wait hK2 hyN (by rw [hnp2]; simpa using hzz) hnp9
        have hnd10 := nd_cons.mp hnd9
        exact TurnEnd.fin (.inl rfl) F8 N9 hnd10.1 ⟨A' ++ j3 :: B', rs', c', _, _, hG9, hsl9, hK3, hm9, map_four, rfl, hnd10.2⟩
    case jdone =>
      intro m₁ news₁ h tk hp94 F₁ N₁
      refine Classical.byContradiction fun hn9 => ?_
      obtain ⟨l', rs', c', u1, u2, hG2, hsl2, hK2, hm2, rfl, rfl, hnd2⟩ := hp94
      refine hn9 ?_
      clear hn9
      clear F4 N5
      have hnd4 := hnd2
      dsimp only [Srt.led, List.cons_append, List.nil_append] at N₁
      k_dflt (refine nd_out6 hnd2 ?_)
      intro e01 e02 e03 e04 e05 eR0 e12 e13 e14 e15 eR1 e23 e24 e25 eR2 e34 e35 eR3 e45 eR4 eR5 eE
      clear hnd2
      k_steps
      rename Fr _ _ _ _ => F8
      rename News _ _ _ _ => N8
      have N9 := unrot (S := ⟨self, sd, d, k1, k2, k3, k4, .ref D, npo, _, od, l'⟩) N8
      have hnd7 := (ND.perm hnd4 (rot3 (I, io) (D', { cls := .type "tuple", data := .seq #[.str x tx] }) (D, W.listOf (strValues rs').toArray c') (Srt.led w ⟨self, sd, d, k1, k2, k3, k4, .ref D, npo, .int z t4, od, l'⟩ tl)).symm)
      have hnd8 := nd_cons.mp hnd7
      rw [List.drop_of_length_le (by simp [strValues])] at hK2
      refine TurnEnd.fin (.inl rfl) F8 N9 (nd_off hnd7 rfl) ⟨_, ⟨l', rs', c', _, rfl, rfl, nd_keys (nd_cons.mp hnd8.2).2 rfl, hG2, hsl2, hK2⟩, rfl, nd_keys hnd8.2 rfl⟩
  case done =>
    intro m' n' h tk hp94 F₁ N₁
    refine Classical.byContradiction fun hn9 => ?_
    obtain ⟨n1, hP, rfl, hnd⟩ := hp94
    refine hn9 ?_
    clear hn9
    clear F2 N2
    k_steps
    all_goals exact hret _ _ _ _ hP (by k_asm) (cb_drop (by assumption) (fun q hq => .tail _ hq))
end Mine
-- En
open PySem PySem.W PySem.Calls PyProof.Rows
namespace Mine

namespace En
section
variable {prog : Program} {w : World} {A : Around} {E : Value → Shared → Prop} {s : Shared}
/-- the next of a tuple's iterator, as enumerate asks for it -/
theorem nextT_item {it t : Addr} {i : Nat} {items : Array Value} {x : Value} {Q : Value → Shared → Prop} (hit : s.heap.IsTupleIter it t i) (ht : s.heap.IsTuple t items) (hx : items[i]? = some x)
    (hQ : ∀ h', h'.IsTupleIter it t (i + 1) → Heap.SameBut it s.heap h' → Q x { s with heap := h' }) : wpAny (model prog w) A (Builtin.SmallTypes.nextOf (.ref it)) Q E s := by
  have hty := hit.typeIs
  refine Classical.byContradiction fun hn9 => ?_
  obtain ⟨o, ho, hc, hd⟩ := hit
  refine hn9 ?_
  clear hn9
  refine Classical.byContradiction fun hn9 => ?_
  obtain ⟨ot, hot, _, nt, hdt⟩ := ht
  refine hn9 ?_
  clear hn9
  unfold Builtin.SmallTypes.nextOf
  refine wpAny_bind (wpAny_callSpecial?_slot (name := Str.ofString "__next__") hty F.slot_tuple_iterator_next (wpAny_call_entry F.slot_tuple_iterator_next hty F.entry_tuple_iterator_next ?_ (F.args_tuple_iterator_next_1 _)))
  show wpAny _ _ (field (.ref it) 0 >>= _) _ _ s
  refine wpAny_bind (wpAny_field ho hd (x := .ref t) rfl ?_)
  show wpAny _ _ (if (Value.ref t == Value.none) = true then _ else _) _ _ s
  rw [if_neg (show ¬ ((Value.ref t == Value.none) = true) from Bool.false_ne_true)]
  show wpAny _ _ (field (.ref it) 1 >>= _) _ _ s
  refine wpAny_bind (wpAny_field ho hd (x := .int i 0) rfl ?_)
  show wpAny _ _ (seqItems? (.ref t) >>= _) _ _ s
  refine wpAny_bind (wpAny_seqItems hot hdt ?_)
  simp only [Int.toNat_natCast, hx]
  refine wpAny_bind (wpAny_setField ho hd (by simp) (wpAny_pure ⟨x, rfl, wpAny_pure (hQ _ ?_ (Heap.SameBut.update ..))⟩))
  exact ⟨_, Heap.get?_update_self _ ho (Obj.isFreed_of_fields (Obj.data_mapFields hd _)), (Obj.cls_mapFields ..).trans hc, by rw [Obj.data_mapFields hd]; simp [rawInt]⟩
theorem nextT_end {it t : Addr} {i : Nat} {items : Array Value} {Q : Value → Shared → Prop} (hh : A.handled = none) (hit : s.heap.IsTupleIter it t i) (ht : s.heap.IsTuple t items) (hx : items[i]? = none)
    (hE : ∀ h' e, Heap.ExtBut it s.heap h' → (∃ o, h'.get? e = some o ∧ o.cls = .type "StopIteration") → E (.ref e) { s with heap := h' }) : wpAny (model prog w) A (Builtin.SmallTypes.nextOf (.ref it)) Q E s := by
  have hty := hit.typeIs
  refine Classical.byContradiction fun hn9 => ?_
  obtain ⟨o, ho, hc, hd⟩ := hit
  refine hn9 ?_
  clear hn9
  refine Classical.byContradiction fun hn9 => ?_
  obtain ⟨ot, hot, _, nt, hdt⟩ := ht
  refine hn9 ?_
  clear hn9
  unfold Builtin.SmallTypes.nextOf
  refine wpAny_bind (wpAny_callSpecial?_slot (name := Str.ofString "__next__") hty F.slot_tuple_iterator_next (wpAny_call_entry F.slot_tuple_iterator_next hty F.entry_tuple_iterator_next ?_ (F.args_tuple_iterator_next_1 _)))
  show wpAny _ _ (field (.ref it) 0 >>= _) _ _ s
  refine wpAny_bind (wpAny_field ho hd (x := .ref t) rfl ?_)
  show wpAny _ _ (if (Value.ref t == Value.none) = true then _ else _) _ _ s
  rw [if_neg (show ¬ ((Value.ref t == Value.none) = true) from Bool.false_ne_true)]
  show wpAny _ _ (field (.ref it) 1 >>= _) _ _ s
  refine wpAny_bind (wpAny_field ho hd (x := .int i 0) rfl ?_)
  show wpAny _ _ (seqItems? (.ref t) >>= _) _ _ s
  refine wpAny_bind (wpAny_seqItems hot hdt ?_)
  simp only [Int.toNat_natCast, hx]
  refine wpAny_bind (wpAny_rule (wpAny_bind (wpAny_setField ho hd (by simp) ?_)))
  show wpAny _ _ (newExc (.type "StopIteration") [] >>= _) _ _ _
  refine wpAny_bind ?_
  simp only [newExc, newTuple]
  refine wpAny_bind (wpAny_newObj_type ?_ (by size_fits))
  refine wpAny_bind (m := firstArgMember _ _) (wpAny_of_eq (a := Value.none) (by first | rfl | (simp only [firstArgMember]; rfl)) ?_)
  refine wpAny_newObj_type ?_ (by size_fits)
  simp only [raiseNew]
  refine wpAny_bind (wpAny_handled ?_)
  first | rw [show A.in1.handled = none from hh] | rw [hh]
  refine wpAny_bind (wpAny_pure (wpAny_throw ?_))
  exact hE _ _ (((Heap.SameBut.update ..).extBut.push _).push _) ⟨_, Heap.get?_push_size _ rfl, rfl⟩
/-- one draw from an enumerate over what any iterator gives -/
theorem draw {e it : Addr} {i : Nat} {x old : Value} {P : Heap → Prop} {Q : Option Value → Shared → Prop} (he : IsEnum s.heap e it i old) (hne : e ≠ it) (hP : ∀ h h', P h → Heap.ExtBut e h h' → P h')
    (hnext : ∀ (A' : Around) (R E' : Value → Shared → Prop), (∀ h', P h' → Heap.SameBut it s.heap h' → R x { s with heap := h' }) → wpAny (model prog w) A' (Builtin.SmallTypes.nextOf (.ref it)) R E' s)
    (hQ : ∀ h', IsEnumOut h' e it ((i : Int) + 1) x s.heap.objs.size → P h' → h'.get? s.heap.objs.size = some { cls := .type "tuple", data := .seq #[.int i s.toks, x] } →
      (∀ b o, b ≠ e → b ≠ it → s.heap.get? b = some o → h'.get? b = some o) → Q (some (.ref s.heap.objs.size)) { s with heap := h', toks := s.toks + 1 }) :
    wpAny (model prog w) A (pyNext (.ref e)) Q E s := by
  have hT : s.TypeIs (.ref e) "enumerate" := ⟨_, he, rfl⟩
  unfold pyNext
  refine wpAny_bind (wpAny_attempt (wpAny_callSpecial?_slot (name := Str.ofString "__next__") hT F.slot_enumerate_next (wpAny_call_entry F.slot_enumerate_next hT F.entry_enumerate_next ?_ (F.args_enumerate_next_1 _))))
  refine Classical.byContradiction fun hn9 => ?_
  obtain ⟨hp, g, d, tk, os⟩ := s
  refine hn9 ?_
  clear hn9
  show wpAny _ _ (field (.ref e) 2 >>= _) _ _ _
  refine wpAny_bind (wpAny_field he rfl (x := .ref it) rfl ?_)
  refine wpAny_bind (hnext _ _ _ fun h₁ hP₁ hs₁ => ?_)
  have s01 : Heap.SameBut it hp h₁ := hs₁
  have e₁ : IsEnum h₁ e it i old := (s01.2 e hne).trans he
  show wpAny _ _ (field (.ref e) 3 >>= _) _ _ ⟨h₁, g, d, tk, os⟩
  refine wpAny_bind (wpAny_field e₁ rfl (x := rawInt i) rfl ?_)
  show wpAny _ _ (field (.ref e) 4 >>= _) _ _ ⟨h₁, g, d, tk, os⟩
  refine wpAny_bind (wpAny_field e₁ rfl (x := .none) rfl ?_)
  show wpAny _ _ (mkInt i >>= _) _ _ ⟨h₁, g, d, tk, os⟩
  refine wpAny_bind (wpAny_mkInt ?_)
  show wpAny _ _ (setField (.ref e) 3 (rawInt ((i : Int) + 1)) >>= _) _ _ ⟨h₁, g, d, tk + 1, os⟩
  refine wpAny_bind (wpAny_setField_rec e₁ (by simp) fun h₂ e₂ s12 => ?_)
  replace s12 : Heap.SameBut e h₁ h₂ := s12
  replace e₂ : IsEnum h₂ e it ((i : Int) + 1) old := e₂
  show wpAny _ _ (setField (.ref e) 4 .none >>= _) _ _ ⟨h₂, g, d, tk + 1, os⟩
  refine wpAny_bind (wpAny_setField_rec e₂ (by simp) fun h₃ e₃ s23 => ?_)
  replace s23 : Heap.SameBut e h₂ h₃ := s23
  replace e₃ : IsEnum h₃ e it ((i : Int) + 1) old := e₃
  have z : h₃.objs.size = hp.objs.size := by rw [s23.1, s12.1, s01.1]
  have P₃ : P h₃ := hP _ _ (hP _ _ hP₁ s12.extBut) s23.extBut
  have k₃ : ∀ b o, b ≠ e → b ≠ it → hp.get? b = some o → h₃.get? b = some o := fun b o h1 h2 hb => s23.extBut b o h1 (s12.extBut b o h1 (s01.extBut b o h2 hb))
  have lt : e < hp.objs.size := Heap.lt_size he
  show wpAny _ _ (newTuple [.int i tk, x] >>= _) _ _ ⟨h₃, g, d, tk + 1, os⟩
  refine wpAny_bind (wpAny_newTuple ?_)
  have T₄ := Heap.get?_push_size h₃ (o := { cls := .type "tuple", data := .seq #[.int i tk, x] }) rfl
  have e₄ : IsEnum (h₃.push { cls := .type "tuple", data := .seq #[.int i tk, x] }) e it ((i : Int) + 1) old := Heap.get?_push_of_some _ e₃
  have P₄ : P (h₃.push { cls := .type "tuple", data := .seq #[.int i tk, x] }) := hP _ _ P₃ fun b o _ hb => Heap.get?_push_of_some _ hb
  have k₄ : ∀ b o, b ≠ e → b ≠ it → hp.get? b = some o → (h₃.push { cls := .type "tuple", data := .seq #[.int i tk, x] }).get? b = some o := fun b o h1 h2 hb => Heap.get?_push_of_some _ (k₃ b o h1 h2 hb)
  rw [z] at T₄
  generalize h₃.push { cls := .type "tuple", data := .seq #[.int i tk, x] } = h₄ at T₄ e₄ P₄ k₄ ⊢
  rw [z]
  show wpAny _ _ (Builtin.SmallTypes.ownedTupleIsFree (.ref e) >>= _) _ _ ⟨h₄, g, d, tk + 1, os⟩
  refine wpAny_bind ?_
  unfold Builtin.SmallTypes.ownedTupleIsFree
  refine wpAny_bind (wpAny_field e₄ rfl (x := .none) rfl (wpAny_pure ?_))
  simp only [if_true]
  refine wpAny_bind (wpAny_rule ?_)
  refine wpAny_bind (wpAny_field e₄ rfl (x := old) rfl ?_)
  refine wpAny_bind (wpAny_setField_rec e₄ (by simp) fun h₅ e₅ s45 => ?_)
  replace s45 : Heap.SameBut e h₄ h₅ := s45
  replace e₅ : IsEnum h₅ e it ((i : Int) + 1) x := e₅
  show wpAny _ _ (Builtin.SmallTypes.ownedTupleHandOut (.ref e) (.ref hp.objs.size) >>= _) _ _ ⟨h₅, g, d, tk + 1, os⟩
  refine wpAny_bind ?_
  unfold Builtin.SmallTypes.ownedTupleHandOut
  refine wpAny_bind (wpAny_setField_rec e₅ (by simp) fun h₆ e₆ s56 => ?_)
  replace s56 : Heap.SameBut e h₅ h₆ := s56
  replace e₆ : IsEnumOut h₆ e it ((i : Int) + 1) x hp.objs.size := e₆
  refine wpAny_setField_rec e₆ (by simp) fun h₇ e₇ s67 => ?_
  replace s67 : Heap.SameBut e h₆ h₇ := s67
  replace e₇ : IsEnumOut h₇ e it ((i : Int) + 1) x hp.objs.size := e₇
  have s47 : Heap.ExtBut e h₄ h₇ := fun b o hb q => s67.extBut b o hb (s56.extBut b o hb (s45.extBut b o hb q))
  exact wpAny_bind (wpAny_letGo (wpAny_pure ⟨_, rfl, wpAny_pure (hQ h₇ e₇ (hP _ _ P₄ s47) (s47 _ _ (Nat.ne_of_gt lt) T₄) fun b o h1 h2 hb => s47 b o h1 (k₄ b o h1 h2 hb))⟩))
theorem draw_end {e it t : Addr} {i : Nat} {items : Array Value} {old : Value} {Q : Option Value → Shared → Prop} (hh : A.handled = none) (he : IsEnum s.heap e it i old) (hit : s.heap.IsTupleIter it t i) (ht : s.heap.IsTuple t items) (hx : items[i]? = none)
    (hQ : ∀ h', Heap.ExtBut it s.heap h' → Q none { s with heap := h' }) : wpAny (model prog w) A (pyNext (.ref e)) Q E s := by
  have hT : s.TypeIs (.ref e) "enumerate" := ⟨_, he, rfl⟩
  unfold pyNext
  refine wpAny_bind (wpAny_attempt (wpAny_callSpecial?_slot (name := Str.ofString "__next__") hT F.slot_enumerate_next (wpAny_call_entry F.slot_enumerate_next hT F.entry_enumerate_next ?_ (F.args_enumerate_next_1 _))))
  show wpAny _ _ (field (.ref e) 2 >>= _) _ _ _
  refine wpAny_bind (wpAny_field he rfl (x := .ref it) rfl ?_)
  refine wpAny_bind (nextT_end hh hit ht hx fun h' x he' ⟨o, ho, hc⟩ => ?_)
  refine wpAny_bind (wpAny_isInstance (T := "StopIteration") (b := true) ⟨o, ho, hc⟩ isSubtype_stop ?_)
  exact wpAny_pure (hQ _ he')
theorem meets_new {l : Addr} {items : Array Value} :
    Meets (Builtin.«enumerate.__new__» ⟨[.type "enumerate", .ref l], []⟩) (fun _ R s => (∃ dct n sl, s.heap.get? l = some { cls := .type "tuple", dict := dct, data := .seq items n, slots := sl }) ∧
      R (.ok (.ret (.ref (s.heap.push { cls := .type "tuple_iterator", data := .fields #[.ref l, .int 0 0] }).objs.size)))
        { s with heap := (s.heap.push { cls := .type "tuple_iterator", data := .fields #[.ref l, .int 0 0] }).push { cls := .type "enumerate", data := .fields #[.none, .bool false, .ref s.heap.objs.size, rawInt 0, .none, .none] } }) :=
  .of_wp fun prog w A R s h => by
    refine Classical.byContradiction fun hn9 => ?_
    obtain ⟨hp, g, d, tk, os⟩ := s
    refine hn9 ?_
    clear hn9
    refine Classical.byContradiction fun hn9 => ?_
    obtain ⟨⟨dct, n, sl, hl⟩, h⟩ := h
    refine hn9 ?_
    clear hn9
    have hsub := sub_enumerate
    have hL : Heap.IsTuple (Shared.heap ⟨hp, g, d, tk, os⟩) l items := ⟨_, hl, rfl, n, rfl⟩
    wp_walk using AutoSeq1.wpAny_loadPart' hl
    refine wpAny_stack_any fun st => wpAny_pure ?_
    split
    · rename_i c _ _ _ _ _
      cases (c == Value.type "enumerate")
      all_goals (wp_walk using AutoSeq1.wpAny_loadPart' hl, wpAny_pyIter_tuple hL)
      all_goals exact ⟨_, rfl, h⟩
    · wp_walk using AutoSeq1.wpAny_loadPart' hl, wpAny_pyIter_tuple hL
      exact ⟨_, rfl, h⟩
theorem call_enum {l : Addr} {items : Array Value} {Q : Value → Shared → Prop} (hL : s.heap.IsTuple l items)
    (h : ∀ h', IsEnum h' (s.heap.objs.size + 1) s.heap.objs.size 0 .none → h'.IsTupleIter s.heap.objs.size l 0 → h'.objs.size = s.heap.objs.size + 2 →
      (∀ b o, s.heap.get? b = some o → h'.get? b = some o) → Q (.ref (s.heap.objs.size + 1)) { s with heap := h' }) : wpAny (model prog w) A (call (.type "enumerate") [.ref l]) Q E s := by
  refine Classical.byContradiction fun hn9 => ?_
  obtain ⟨⟨c, dct, dt, sl⟩, hl, hc, n, hd⟩ := hL
  refine hn9 ?_
  clear hn9
  replace hc : c = .type "tuple" := hc
  replace hd : dt = .seq items n := hd
  subst hc hd
  refine callType_new F.called_enumerate (by decide) (F.typeCall_enumerate_1 _) (F.newCall_enumerate_1 _) (fun obj => F.args_object_init_2 obj _) F.entry_enumerate_new (meets_new (items := items)) ⟨⟨_, _, _, hl⟩, ?_⟩
  have hz : (s.heap.push { cls := .type "tuple_iterator", data := .fields #[.ref l, .int 0 0] }).objs.size = s.heap.objs.size + 1 := Heap.size_push ..
  show _ ∧ _
  rw [hz]
  have he : IsEnum ((s.heap.push { cls := .type "tuple_iterator", data := .fields #[.ref l, .int 0 0] }).push { cls := .type "enumerate", data := .fields #[.none, .bool false, .ref s.heap.objs.size, rawInt 0, .none, .none] }) (s.heap.objs.size + 1) s.heap.objs.size 0 .none := by
    have := Heap.get?_push_size (s.heap.push { cls := .type "tuple_iterator", data := .fields #[.ref l, .int 0 0] }) (o := { cls := .type "enumerate", data := .fields #[.none, .bool false, .ref s.heap.objs.size, rawInt 0, .none, .none] }) rfl
    rw [hz] at this; exact this
  exact ⟨⟨_, he, rfl⟩, h _ he ⟨_, Heap.get?_push_of_some _ (Heap.get?_push_size _ rfl), rfl, rfl⟩ (by rw [Heap.size_push, hz]) fun b o x => Heap.get?_push_of_some _ (Heap.get?_push_of_some _ x)⟩
end
/-- enumerate over a tuple, turn by turn -/
theorem turns {prog : Program} {w : World} {A : Around} (hh : A.handled = none) (e it l : Addr) (hei : e ≠ it) (hle : l ≠ e) (hli : l ≠ it) (items : Array Value) :
    WalksT prog w A e [e, it, l] [e, it] items.size (fun i vals => ∃ t x, items[i]? = some x ∧ vals = #[.int i t, x])
      (fun i h => (∃ old, IsEnum h e it i old) ∧ h.IsTupleIter it l i ∧ h.IsTuple l items)
      (fun i T h => (∃ x, IsEnumOut h e it ((i : Int) + 1) x T) ∧ h.IsTupleIter it l (i + 1) ∧ h.IsTuple l items ∧ T ≠ e ∧ T ≠ it) where
  sub := by simp
  frame := fun i h h' ⟨⟨old, he⟩, hit, hl⟩ hk => ⟨⟨old, hk e (by simp) _ he⟩, hit.at fun o x => hk it (by simp) o x, hl.at fun o x => hk l (by simp) o x⟩
  item := fun i s Q E hi ⟨⟨old, he⟩, hit, hl⟩ hQ => by
    have hx : items[i]? = some items[i] := Array.getElem?_eq_getElem hi
    have helt : e < s.heap.objs.size := Heap.lt_size he
    have hilt : it < s.heap.objs.size := by obtain ⟨_, x, _⟩ := hit; exact Heap.lt_size x
    refine draw (P := fun h => h.IsTupleIter it l (i + 1) ∧ h.IsTuple l items) he hei (fun h h' hp hs => ⟨hp.1.extBut hs (Ne.symm hei), hp.2.extBut hs hle⟩)
      (fun A' R E' k => nextT_item hit hl hx fun h' h1 h2 => k h' ⟨h1, hl.extBut h2.extBut hli⟩ h2) fun h' ho hP hT hk => ?_
    exact hQ s.heap.objs.size #[.int i s.toks, items[i]] h' (s.toks + 1) ⟨_, _, hx, rfl⟩ (Nat.le_refl _) ⟨_, hT, rfl, _, rfl⟩ ⟨⟨_, ho⟩, hP.1, hP.2, Nat.ne_of_gt helt, Nat.ne_of_gt hilt⟩
      fun b o hb x => hk b o (fun e' => hb (by simp [e'])) (fun e' => hb (by simp [e'])) x
  go := fun elts k pos i T s Q E ⟨⟨x, ho⟩, hit, hl, hTe, hTi⟩ hQ => by
    refine wpAny_letOwnedTupleGo_enum ho fun h' he' hs' => hQ h' ⟨⟨x, by simpa using he'⟩, hit.at fun o y => (hs'.2 it hei.symm).trans y, hl.at fun o y => (hs'.2 l hle).trans y⟩ fun b o hb y => ?_
    exact (hs'.2 b fun e' => hb (by simp [e'])).trans y
  apart := fun i T h ⟨_, _, _, hTe, hTi⟩ hT => by simp at hT; exact hT.elim hTe hTi
  done := fun s Q E ⟨⟨old, he⟩, hit, hl⟩ hQ => draw_end hh he hit hl (Array.getElem?_eq_none (Nat.le_refl _)) fun h' hx => hQ h' s.toks fun b o hb y => hx b o (fun e' => hb (by simp [e'])) y
  self := fun i s Q E ⟨⟨old, he⟩, _, _⟩ hQ => wpAny_pyIter_enum he hQ
end En
end Mine
-- Fm0
open PySem PySem.W PySem.Calls PyProof.Rows
namespace Mine

section
variable {prog : Program} {w : World} {A : Around} {E : Value → Shared → Prop} {s : Shared} {env : Env} {h₀ : Heap} {body : List Stmt} {target : PySem.Expr} {Q : Flow → Shared → Prop}
/-- the end of a turn of a loop over an enumerate -/
noncomputable def TurnEnd2 (h₀ : Heap) (L I I2 : Addr) (io io2 : Obj) (Jn : (Str → Option Value) → Led → Prop) (s₂ : Shared) (Q : Flow → Shared → Prop) (f : Flow) (s' : Shared) : Prop :=
  match f with
  | .ret v => Q (.ret v) s'
  | .brk => Q .next s'
  | _ => ∃ h' tk m' news', s' = { s₂ with heap := h', toks := tk } ∧ Fr h₀ L h' m' ∧ News h₀ L h' ((I, io) :: (I2, io2) :: news') ∧ (∀ p ∈ news', p.1 ≠ I ∧ p.1 ≠ I2) ∧ Jn m' news'
theorem TurnEnd2.fin {L I I2 : Addr} {io io2 : Obj} {Jn : (Str → Option Value) → Led → Prop} {s₂ : Shared} {f : Flow} {h' : Heap} {tk : Nat} {m' : Str → Option Value} {news' : Led} (hf : f = .next ∨ f = .cont)
    (F : Fr h₀ L h' m') (N : News h₀ L h' ((I, io) :: (I2, io2) :: news')) (hn : ∀ p ∈ news', p.1 ≠ I ∧ p.1 ≠ I2) (hJ : Jn m' news') : TurnEnd2 h₀ L I I2 io io2 Jn s₂ Q f { s₂ with heap := h', toks := tk } := by
  rcases hf with rfl | rfl <;> exact ⟨h', tk, m', news', rfl, F, N, hn, hJ⟩
theorem iterEnum {elts : List PySem.Expr} {k : Nat} {pos : Pos} {l : Addr} {items : Array Value} {m₀ : Str → Option Value} {news : Led} (Jm : (Str → Option Value) → Nat → (Str → Option Value) → Led → Prop)
    (hh : A.handled = none) (F : Fr h₀ env.locals s.heap m₀) (N : News h₀ env.locals s.heap news) (hl : h₀.IsTuple l items) (h0 : Jm m₀ 0 m₀ news)
    (turn : ∀ i x m₁ news₁ h tk I io I2 io2 T t, i < items.size → items[i]? = some x → Jm m₀ i m₁ news₁ → (∀ p ∈ news₁, p.1 ≠ I ∧ p.1 ≠ I2) → @Ne Nat I I2 → IsTup h T #[.int (i : Nat) t, x] → Fr h₀ env.locals h m₁ → News h₀ env.locals h ((I, io) :: (I2, io2) :: news₁) →
      wpAny (model prog w) A (assign (.Tuple elts k pos) env (.ref T)) (fun _ s₃ => wpAny (model prog w) A (execs body env) (TurnEnd2 h₀ env.locals I I2 io io2 (Jm m₀ (i + 1)) s Q) E s₃) E { s with heap := h, toks := tk })
    (done : ∀ m₁ news₁ h tk, Jm m₀ items.size m₁ news₁ → Fr h₀ env.locals h m₁ → News h₀ env.locals h news₁ → Q .next { s with heap := h, toks := tk }) :
    wpAny (model prog w) A (call (.type "enumerate") [.ref l]) (fun xv s₁ => wpAny (model prog w) A (pyIter xv) (fun it s₂ => TurnsAt prog w A h₀ env (.Tuple elts k pos) body Q E it s₂) E s₁) E s := by
  have hlS : s.heap.IsTuple l items := by
    refine Classical.byContradiction fun hn9 => ?_
    obtain ⟨o, ho, r⟩ := hl
    refine hn9 ?_
    clear hn9
    exact ⟨o, F.keep _ _ ho, r⟩
  have hlt : l < s.heap.objs.size := by obtain ⟨o, ho, _⟩ := hlS; exact Heap.lt_size ho
  have hLs : env.locals < s.heap.objs.size := F.ns.lt
  refine En.call_enum hlS fun h' hE hI hsz hk => ?_
  refine wpAny_pyIter_enum hE ?_
  have W := KTurns.ofWalksU (elts := elts) (k := k) (pos := pos) (En.turns (prog := prog) (w := w) hh (s.heap.objs.size + 1) s.heap.objs.size l (Nat.succ_ne_self _) (ktu_ne 1 hlt) (Nat.ne_of_lt hlt) items).toU
  have hnone : ∀ b ∈ [s.heap.objs.size + 1, s.heap.objs.size], h₀.get? b = none := by
    intro b hb
    have hb' : b = s.heap.objs.size + 1 ∨ b = s.heap.objs.size := by simpa using hb
    rcases hb' with rfl | rfl
    · exact ktu_new F (Nat.le_add_right _ _)
    · exact ktu_new F (Nat.le_refl _)
  have hlh : ∃ o, h₀.get? l = some o := by obtain ⟨o, ho, _⟩ := hl; exact ⟨o, ho⟩
  refine ⟨_, _, _, _, _, _, _, m₀, news, Jm m₀, rfl, W, ?_, hnone, ?_, ⟨⟨_, hE⟩, hI, hlS.at fun o e => hk l o e⟩, F.keeps hk, N.grown hk, h0, ?_, ?_⟩
  · intro hb
    have hb' : env.locals = s.heap.objs.size + 1 ∨ env.locals = s.heap.objs.size ∨ env.locals = l := by simpa using hb
    rcases hb' with e | e | e
    · exact ktu_ne 1 hLs e
    · exact Nat.ne_of_lt hLs e
    · refine Classical.byContradiction fun hn9 => ?_
      obtain ⟨o, ho⟩ := hlh
      refine hn9 ?_
      clear hn9
      rw [← e, kts_self F] at ho
      cases ho
  · intro p hp hb
    have hb' : p.1 = s.heap.objs.size + 1 ∨ p.1 = s.heap.objs.size := by simpa using hb
    have := Heap.lt_size (N p hp).1
    rcases hb' with e | e
    · exact ktu_ne 1 this e
    · exact Nat.ne_of_lt this e
  · intro i v m₁ news₁ h tk own hi hp98 hJ hoff hsub hget hall hst F₁ N₁
    refine Classical.byContradiction fun hn9 => ?_
    obtain ⟨T, vals, rfl, ⟨t, x, hx, rfl⟩, hT⟩ := hp98
    refine hn9 ?_
    clear hn9
    refine Classical.byContradiction fun hn9 => ?_
    obtain ⟨⟨old, he0⟩, ⟨oi, hoi, hic⟩, _⟩ := hst
    refine hn9 ?_
    clear hn9
    obtain ⟨oe, he⟩ : ∃ oe, h.get? (s.heap.objs.size + 1) = some oe := ⟨_, he0⟩
    clear he0
    have m1 := hall (s.heap.objs.size + 1) (by simp) (hnone _ (by simp)) _ he
    have m2 := hall (s.heap.objs.size) (by simp) (hnone _ (by simp)) _ hoi
    refine wpAny_mono (turn i x m₁ news₁ h tk (s.heap.objs.size + 1) oe s.heap.objs.size oi T t hi hx hJ (fun p hp => ⟨fun e => hoff p hp (by simp [e]), fun e => hoff p hp (by simp [e])⟩) (Nat.succ_ne_self _) hT F₁ ?_) (fun _ s₃ hs₃ => wpAny_mono hs₃ (fun f s' hf => ?_) fun _ _ e => e) fun _ _ e => e
    · intro p hp
      rcases List.mem_cons.mp hp with rfl | hp
      · exact N₁ _ (List.mem_append_left _ m1)
      · rcases List.mem_cons.mp hp with rfl | hp
        · exact N₁ _ (List.mem_append_left _ m2)
        · exact N₁ _ (List.mem_append_right _ hp)
    · have fin : (∃ h' tk' m' news', s' = { s with heap := h', toks := tk' } ∧ Fr h₀ env.locals h' m' ∧ News h₀ env.locals h' ((s.heap.objs.size + 1, oe) :: (s.heap.objs.size, oi) :: news') ∧ (∀ p ∈ news', p.1 ≠ s.heap.objs.size + 1 ∧ p.1 ≠ s.heap.objs.size) ∧ Jm m₀ (i + 1) m' news') →
          LoopStepU h₀ env.locals [s.heap.objs.size + 1, s.heap.objs.size] own (Jm m₀ (i + 1)) { s with heap := h, toks := tk } .next s' := by
        intro hp90
        refine Classical.byContradiction fun hn9 => ?_
        obtain ⟨h', tk', m', news', rfl, F', N', hn', hJ'⟩ := hp90
        refine hn9 ?_
        clear hn9
        refine ⟨rfl, h', tk', m', news', rfl, F', ?_, ?_, hJ'⟩
        · intro p hp
          rcases List.mem_append.mp hp with hp | hp
          · have h1 := hsub p hp
            have h2 := hget p hp
            have h1' : p.1 = s.heap.objs.size + 1 ∨ p.1 = s.heap.objs.size ∨ p.1 = l := by simpa using h1
            refine Classical.byContradiction fun hn9 => ?_
            obtain ⟨pa, po⟩ := p
            refine hn9 ?_
            clear hn9
            dsimp only at h1' h2
            rcases h1' with e | e | e
            · subst e
              have : po = oe := Option.some.inj (h2.symm.trans he)
              subst this
              exact N' _ (.head _)
            · subst e
              have : po = oi := Option.some.inj (h2.symm.trans hoi)
              subst this
              exact N' _ (.tail _ (.head _))
            · have h4 := (N₁ _ (List.mem_append_left _ hp)).2.2
              refine Classical.byContradiction fun hn9 => ?_
              obtain ⟨o, ho⟩ := hlh
              refine hn9 ?_
              clear hn9
              dsimp only at h4
              rw [e, ho] at h4
              cases h4
          · exact N' p (.tail _ (.tail _ hp))
        · intro p hp hq
          have hq' : p.1 = s.heap.objs.size + 1 ∨ p.1 = s.heap.objs.size := by simpa using hq
          rcases hq' with e | e
          · exact (hn' p hp).1 e
          · exact (hn' p hp).2 e
      cases f with
      | ret v => exact hf
      | brk => exact hf
      | next => exact fin hf
      | cont => exact fin hf
  · intro h' tk m' news' F' N' _ hJ
    exact done m' news' h' tk hJ F' N'
end
end Mine
-- Fm1
open PySem PySem.W PySem.Calls PyProof.Rows
namespace Mine

section
variable {prog : Program} {w : World} {A : Around} {E : Value → Shared → Prop} {s : Shared} {env : Env} {h₀ : Heap} {body orelse : List Stmt} {target : PySem.Expr} {Q : Flow → Shared → Prop}
/-- a for with an else, over a tuple of the ground -/
noncomputable def ElseAt (prog : Program) (w : World) (A : Around) (h₀ : Heap) (env : Env) (target : PySem.Expr) (body orelse : List Stmt) (Q : Flow → Shared → Prop) (E : Value → Shared → Prop) (it : Value) (s₂ : Shared) : Prop :=
  ∃ (I l : Addr) (items : Array Value) (m : Str → Option Value) (news : Led) (J : Nat → (Str → Option Value) → Led → Prop), it = .ref I ∧ A.handled = none ∧ s₂.heap.IsTupleIter I l 0 ∧ h₀.IsTuple l items ∧ h₀.get? I = none ∧ env.locals ≠ I ∧ (∀ p ∈ news, p.1 ≠ I) ∧
    Fr h₀ env.locals s₂.heap m ∧ News h₀ env.locals s₂.heap news ∧ J 0 m news ∧
    (∀ i x m₁ news₁ h tk io, items[i]? = some x → J i m₁ news₁ → (∀ p ∈ news₁, p.1 ≠ I) → Fr h₀ env.locals h m₁ → News h₀ env.locals h ((I, io) :: news₁) →
      wpAny (model prog w) A (assign target env x) (fun _ s₃ => wpAny (model prog w) A (execs body env) (TurnEnd h₀ env.locals I io (J (i + 1)) s₂ Q) E s₃) E { s₂ with heap := h, toks := tk }) ∧
    (∀ m₁ news₁ h tk, J items.size m₁ news₁ → Fr h₀ env.locals h m₁ → News h₀ env.locals h news₁ → wpAny (model prog w) A (execs orelse env) Q E { s₂ with heap := h, toks := tk })
theorem For_else {iter : PySem.Expr} {pos : Pos} {m : Str → Option Value} (_F : Fr h₀ env.locals s.heap m)
    (h : wpAny (model prog w) A (eval iter env) (fun xv s₁ => wpAny (model prog w) A (pyIter xv) (fun it s₂ => ElseAt prog w A h₀ env target body orelse Q E it s₂) E s₁) E s)
    (hs : ∀ x, foldedSetIterable iter env x = pure x := by intro _; rfl) (hE : PassesOwn (model prog w) A env E := by passes_own) :
    wpAny (model prog w) A (exec (.For target iter body orelse pos) env) Q E s := by
  refine wpAny_For (wpAny_mono h (fun xv s₁ h₁ => wpAny_mono h₁ (fun it s₂ h₂ => ?_) fun _ _ e => e) fun _ _ e => e) hs
  refine Classical.byContradiction fun hn9 => ?_
  obtain ⟨I, l, items, m₀, news, J, rfl, hh, hit, hl, hI0, hIL, hIn, F, N, h0, turn, last⟩ := h₂
  refine hn9 ?_
  clear hn9
  have lI : l ≠ I := fun e => by obtain ⟨o, ho, _⟩ := hl; rw [e, hI0] at ho; cases ho
  refine codeAny_forLoop_any (fun k s' => ∃ h' tk m' news' i, s' = { s₂ with heap := h', toks := tk } ∧ h'.IsTupleIter I l i ∧ Fr h₀ env.locals h' m' ∧ News h₀ env.locals h' news' ∧ (∀ p ∈ news', p.1 ≠ I) ∧ J i m' news' ∧ i ≤ items.size ∧ k = items.size + 1 - i) ?_ (items.size + 1)
    ⟨s₂.heap, s₂.toks, m₀, news, 0, rfl, hit, F, N, hIn, h0, Nat.zero_le _, rfl⟩
  intro k s' hp92
  refine Classical.byContradiction fun hn9 => ?_
  obtain ⟨h', tk, m', news', i, rfl, hit', F', N', hn', hJ, hi, rfl⟩ := hp92
  refine hn9 ?_
  clear hn9
  have hl' : h'.IsTuple l items := by
    refine Classical.byContradiction fun hn9 => ?_
    obtain ⟨o, ho, r⟩ := hl
    refine hn9 ?_
    clear hn9
    exact ⟨o, F'.keep _ _ ho, r⟩
  by_cases hlt : i < items.size
  · refine wpAny_pyNext_tuple_item hit' hl' (x := items[i]) (by simp [hlt]) fun h₁ hit₁ hs₁ => ?_
    refine letGo_tupleiter hit₁ ?_
    have F₁ : Fr h₀ env.locals h₁ m' := F'.change hs₁ (Ne.symm hIL) hI0
    have N₁ : News h₀ env.locals h₁ news' := fun p hp => ⟨(hs₁.2 _ (hn' p hp)).trans (N' p hp).1, (N' p hp).2⟩
    refine Classical.byContradiction fun hn9 => ?_
    obtain ⟨io, hio, hic⟩ := hit₁
    refine hn9 ?_
    clear hn9
    have N₂ : News h₀ env.locals h₁ ((I, io) :: news') := fun p hp => by
      rcases List.mem_cons.mp hp with rfl | hp
      · exact ⟨hio, Ne.symm hIL, hI0⟩
      · exact N₁ p hp
    refine wpAny_passesOwn hE (wpAny_mono (turn i items[i] m' news' h₁ tk io (by simp [hlt]) hJ hn' F₁ N₂) (fun _ s₃ h₃ => wpAny_passesOwn hE (wpAny_mono h₃ (fun f s₄ h₄ => ?_) fun _ _ e => e)) fun _ _ e => e)
    have back : ∀ {s₄}, (∃ h' tk m' news', s₄ = { s₂ with heap := h', toks := tk } ∧ Fr h₀ env.locals h' m' ∧ News h₀ env.locals h' ((I, io) :: news') ∧ (∀ p ∈ news', p.1 ≠ I) ∧ J (i + 1) m' news') →
        ∃ k', k' < items.size + 1 - i ∧ ∃ h' tk m' news' i, s₄ = { s₂ with heap := h', toks := tk } ∧ h'.IsTupleIter I l i ∧ Fr h₀ env.locals h' m' ∧ News h₀ env.locals h' news' ∧ (∀ p ∈ news', p.1 ≠ I) ∧ J i m' news' ∧ i ≤ items.size ∧ k' = items.size + 1 - i := by
      intro s₄ hp91
      refine Classical.byContradiction fun hn9 => ?_
      obtain ⟨h', tk, m', news', rfl, F', N', hn', hJ'⟩ := hp91
      refine hn9 ?_
      clear hn9
      exact ⟨items.size + 1 - (i + 1), by omega, h', tk, m', news', i + 1, rfl, ⟨io, (N' _ (.head _)).1, hic⟩, F', fun p hp => N' p (.tail _ hp), hn', hJ', hlt, rfl⟩
    cases f with
    | ret v => exact h₄
    | brk => exact h₄
    | next => exact back h₄
    | cont => exact back h₄
  · have hin : i = items.size := by omega
    subst hin
    refine wpAny_pyNext_tuple_end hh hit' hl' (by simp) fun h₁ hk₁ => ?_
    have F₁ : Fr h₀ env.locals h₁ m' := by
      refine ⟨F'.ns.at' fun o e => hk₁ _ o hIL e, fun b o e => hk₁ b o (fun q => by rw [q, hI0] at e; cases e) (F'.keep b o e), F'.above⟩
    have N₁ : News h₀ env.locals h₁ news' := fun p hp => ⟨hk₁ _ _ (hn' p hp) (N' p hp).1, (N' p hp).2⟩
    exact wpAny_passesOwn hE (last m' news' h₁ tk hJ F₁ N₁)
theorem iterElse {l : Addr} {items : Array Value} {m₀ : Str → Option Value} {news : Led} (Jm : (Str → Option Value) → Nat → (Str → Option Value) → Led → Prop)
    (hh : A.handled = none) (F : Fr h₀ env.locals s.heap m₀) (N : News h₀ env.locals s.heap news) (hl : h₀.IsTuple l items) (h0 : Jm m₀ 0 m₀ news)
    (turn : ∀ i x m₁ news₁ h tk I io, items[i]? = some x → Jm m₀ i m₁ news₁ → (∀ p ∈ news₁, p.1 ≠ I) → Fr h₀ env.locals h m₁ → News h₀ env.locals h ((I, io) :: news₁) →
      wpAny (model prog w) A (assign target env x) (fun _ s₃ => wpAny (model prog w) A (execs body env) (TurnEnd h₀ env.locals I io (Jm m₀ (i + 1)) s Q) E s₃) E { s with heap := h, toks := tk })
    (done : ∀ m₁ news₁ h tk, Jm m₀ items.size m₁ news₁ → Fr h₀ env.locals h m₁ → News h₀ env.locals h news₁ → wpAny (model prog w) A (execs orelse env) Q E { s with heap := h, toks := tk }) :
    wpAny (model prog w) A (pyIter (.ref l)) (fun it s₂ => ElseAt prog w A h₀ env target body orelse Q E it s₂) E s := by
  have hlS : s.heap.IsTuple l items := by
    refine Classical.byContradiction fun hn9 => ?_
    obtain ⟨o, ho, r⟩ := hl
    refine hn9 ?_
    clear hn9
    exact ⟨o, F.keep _ _ ho, r⟩
  refine wpAny_pyIter_tuple hlS ?_
  exact ⟨s.heap.objs.size, l, items, m₀, news, Jm m₀, rfl, hh, ⟨_, Heap.get?_push_size _ rfl, rfl, rfl⟩, hl, fresh_none F, Nat.ne_of_lt F.ns.lt, fun p hp => Nat.ne_of_lt (Heap.lt_size (N p hp).1), F.push _, fun p hp => ⟨Heap.get?_push_of_some _ (N p hp).1, (N p hp).2⟩, h0,
    fun i x m₁ news₁ h tk io hx hJ hn F₁ N₁ => turn i x m₁ news₁ h tk _ io hx hJ hn F₁ N₁, fun m₁ news₁ h tk hJ F₁ N₁ => done m₁ news₁ h tk hJ F₁ N₁⟩
end
structure Cell where
  a : Addr
  b : Int
  tb : Tok
  c : Str
  tc : Tok
noncomputable def cells : List (Addr × List Cell) :=
  [(278, [⟨271, 40960, 561, Str.ofString "l", 596⟩, ⟨272, 49152, 563, Str.ofString "s", 597⟩, ⟨273, 32768, 557, Str.ofString "-", 598⟩, ⟨274, 24576, 555, Str.ofString "b", 599⟩, ⟨275, 16384, 551, Str.ofString "d", 600⟩, ⟨276, 8192, 553, Str.ofString "c", 601⟩, ⟨277, 4096, 559, Str.ofString "p", 602⟩]),
   (280, [⟨279, 256, 578, Str.ofString "r", 603⟩]), (282, [⟨281, 128, 580, Str.ofString "w", 604⟩]), (286, [⟨283, 2112, 605, Str.ofString "s", 606⟩, ⟨284, 2048, 572, Str.ofString "S", 607⟩, ⟨285, 64, 582, Str.ofString "x", 608⟩]),
   (288, [⟨287, 32, 584, Str.ofString "r", 609⟩]), (290, [⟨289, 16, 586, Str.ofString "w", 610⟩]), (294, [⟨291, 1032, 611, Str.ofString "s", 612⟩, ⟨292, 1024, 574, Str.ofString "S", 613⟩, ⟨293, 8, 588, Str.ofString "x", 614⟩]),
   (296, [⟨295, 4, 590, Str.ofString "r", 615⟩]), (298, [⟨297, 2, 592, Str.ofString "w", 616⟩]), (302, [⟨299, 513, 617, Str.ofString "t", 618⟩, ⟨300, 512, 576, Str.ofString "T", 619⟩, ⟨301, 1, 594, Str.ofString "x", 620⟩])]
noncomputable def cellO (c : Cell) : Obj := { cls := .type "tuple", data := .seq #[.int c.b c.tb, .str c.c c.tc] }
noncomputable def rowO (r : List Cell) : Obj := { cls := .type "tuple", data := .seq (r.map fun c => Value.ref c.a).toArray }
noncomputable def tabO : Obj := { cls := .type "tuple", data := .seq (cells.map fun r => Value.ref r.1).toArray }
theorem tab_in' {w : World} {h₀ : Heap} : PySem.Challenge.rw_pd0160_01.row.prog = PySem.Challenge.rw_pd0160_01.row.prog → (hd.heap_39 w.params).In h₀ → h₀.get? 303 = some tabO ∧ ∀ r ∈ cells, h₀.get? r.1 = some (rowO r.2) ∧ ∀ c ∈ r.2, h₀.get? c.a = some (cellO c) := by
  k_fill
  intro _ X
  refine ⟨X _ _ (by k_is), ?_⟩
  simp only [cells, List.forall_mem_cons, List.not_mem_nil, false_implies, implies_true, and_true]
  refine ⟨⟨X _ _ (by k_is), X _ _ (by k_is), X _ _ (by k_is), X _ _ (by k_is), X _ _ (by k_is), X _ _ (by k_is), X _ _ (by k_is), X _ _ (by k_is)⟩, ⟨X _ _ (by k_is), X _ _ (by k_is)⟩, ⟨X _ _ (by k_is), X _ _ (by k_is)⟩, ⟨X _ _ (by k_is), X _ _ (by k_is), X _ _ (by k_is), X _ _ (by k_is)⟩,
    ⟨X _ _ (by k_is), X _ _ (by k_is)⟩, ⟨X _ _ (by k_is), X _ _ (by k_is)⟩, ⟨X _ _ (by k_is), X _ _ (by k_is), X _ _ (by k_is), X _ _ (by k_is)⟩, ⟨X _ _ (by k_is), X _ _ (by k_is)⟩, ⟨X _ _ (by k_is), X _ _ (by k_is)⟩, ⟨X _ _ (by k_is), X _ _ (by k_is), X _ _ (by k_is), X _ _ (by k_is)⟩⟩
theorem tab_in {w : World} {h₀ : Heap} (X : (hd.heap_39 w.params).In h₀) : h₀.get? 303 = some tabO ∧ ∀ r ∈ cells, h₀.get? r.1 = some (rowO r.2) ∧ ∀ c ∈ r.2, h₀.get? c.a = some (cellO c) := tab_in' rfl X
end Mine
-- Fm
open PySem PySem.W PySem.Calls PyProof.Rows
namespace Mine

theorem tellI_use {w : World} {mean : ExcName → Option Value} {mg mb : Str → Option Value} {D U : Nat} {f : Addr} {args : List Value} {news : Led} {r : Int}
    {dp un : Nat} {gd : Option (List Code)} {cn : Str} {cs : Scope} {a : Addr} {ccd : Value} {cl : List (Str × Addr)} {outer : List Env} {A₀ : Around} {base h₀ : Heap} {L : Addr} {m : Str → Option Value} {s : Shared} {Q E : Value → Shared → Prop}
    (C : Tell w mean mg mb D U f args news (fun v n' => n' = news ∧ ∃ t, v = .int r t)) (B : Below A₀ base outer h₀) (F : Fr h₀ L s.heap m) (X : (hd.heap_39 w.params).In h₀) (N : News h₀ L s.heap news)
    (T : Top hd.view_39 (looseW hd.view_39 [Str.ofString "_NodeInfo", Str.ofString "_filemode_table"]) mean mg mb h₀) (hk : cs.kind = .function) (hdp : dp + D < recursionLimit) (hu : un + U < cLine)
    (ret : ∀ t h' tk', Fr h₀ L h' m → News h₀ L h' news → Q (.int r t) { s with heap := h', toks := tk' }) :
    wpAny (model PySem.Challenge.rw_pd0160_01.row.prog w) (ktrTop dp un gd cn cs L a ccd cl outer) (call (.ref f) args) Q E s :=
  tell_use C B F X N T hk hdp hu (by rintro v n' h' tk' ⟨rfl, t, rfl⟩ F' N'; exact ret t h' tk' F' N')

theorem lines_Fm1 : True := by
  k_with_none
  k_with "k_ne" => (first | with_reducible assumption | exact Ne.symm (by with_reducible assumption) | (refine neN ?_; (try dsimp only); first | with_reducible assumption | exact Ne.symm (by with_reducible assumption) | exact Nat.ne_of_lt (by with_reducible assumption) | exact Nat.ne_of_gt (by with_reducible assumption) | exact nl0 (by with_reducible assumption) | exact ng0 (by with_reducible assumption) | exact nl1 (by with_reducible assumption) | exact ng1 (by with_reducible assumption) | exact nl2 (by with_reducible assumption) | exact ng2 (by with_reducible assumption) | exact nl3 (by with_reducible assumption) | exact ng3 (by with_reducible assumption) | exact nl4 (by with_reducible assumption) | exact ng4 (by with_reducible assumption) | exact nl5 (by with_reducible assumption) | exact ng5 (by with_reducible assumption) | exact nl6 (by with_reducible assumption) | exact ng6 (by with_reducible assumption) | exact nl7 (by with_reducible assumption) | exact ng7 (by with_reducible assumption) | exact nl8 (by with_reducible assumption) | exact ng8 (by with_reducible assumption) | exact nl9 (by with_reducible assumption) | exact ng9 (by with_reducible assumption) | omega))
  k_with "room" => (first | exact room0 (by with_reducible assumption) | exact room1 (by with_reducible assumption) (by decide) | exact room2 (by with_reducible assumption) (by decide) | exact room3 (by with_reducible assumption) (by decide))
  k_with "units" => (first | exact unit0 (by with_reducible assumption) | exact unit1 (by with_reducible assumption) (by decide) | exact unit2 (by with_reducible assumption) (by decide) | exact unit3 (by with_reducible assumption) (by decide))
  k_with "om" => (first | with_reducible assumption | with_reducible exact le_lit (by with_reducible assumption) (by decide) | with_reducible exact add_lit (by with_reducible assumption) (by with_reducible assumption) (by with_reducible assumption) (by decide) | with_reducible exact lt_lel (by with_reducible assumption) (by decide) | with_reducible exact sum_lit (by with_reducible assumption) (by with_reducible assumption) (by decide) | with_reducible exact suc_lit (by with_reducible assumption) (by decide) | with_reducible exact lt_lit (by with_reducible assumption) (by decide) | with_reducible exact le_ltl (by with_reducible assumption) (by decide) | with_reducible exact ige_lit (by with_reducible assumption) (by decide) | with_reducible exact ile_lit (by with_reducible assumption) (by decide) | with_reducible exact ilt_lit (by with_reducible assumption) (by decide) | omega)
  k_with "execs cons" => (k_here; (with_reducible show wpAny _ _ _ _ _ (Shared.mk _ _ _ (_ + _) _)); refine toks_all ?_; intro tk; (try dsimp only))
  k_with "execs nil" => (k_here; (with_reducible show wpAny _ _ _ _ _ (Shared.mk _ _ _ (_ + _) _)); refine toks_all ?_; intro tk; (try dsimp only))
  k_with "eval BinOp" => (k_here; k_fold)
  k_with "eval Call Attribute" => (k_here; k_fold)
  k_with "eval Call Name" => (k_here; k_fold)
  k_with "eval Call" => (k_here; k_fold)
  k_with "eval Subscript" => (k_here; k_fold)
  k_with "eval Compare" => (k_here; k_fold)
  k_with "eval IfExp" => (k_here; k_fold)
  k_with "eval List" => (k_here; k_fold)
  k_with "eval Tuple" => (k_here; k_fold)
  k_with "k_all" => (first | exact allLt_ne (by assumption) | assumption | (intro p9 hp9; refine neN ?_; have h9 := ltN (ktn_ltOf (by first | assumption | exact (show _ ∧  AllLt _ _ by assumption).2 | exact (show _ ∧ _ ∧  AllLt _ _ by assumption).2.2 | exact (show _ ∧ _ ∧ _ ∧  AllLt _ _ by assumption).2.2.2 | exact (show _ ∧ _ ∧ _ ∧ _ ∧  AllLt _ _ by assumption).2.2.2.2 | exact (show _ ∧ _ ∧ _ ∧ _ ∧ _ ∧  AllLt _ _ by assumption).2.2.2.2.2 | exact (show _ ∧ _ ∧ _ ∧ _ ∧ _ ∧ _ ∧  AllLt _ _ by assumption).2.2.2.2.2.2 | exact (show _ ∧ _ ∧ _ ∧ _ ∧ _ ∧ _ ∧ _ ∧  AllLt _ _ by assumption).2.2.2.2.2.2.2 | exact (show _ ∧ _ ∧ _ ∧ _ ∧ _ ∧ _ ∧ _ ∧ _ ∧  AllLt _ _ by assumption).2.2.2.2.2.2.2.2 | exact (show _ ∧ _ ∧ _ ∧ _ ∧ _ ∧ _ ∧ _ ∧ _ ∧ _ ∧  AllLt _ _ by assumption).2.2.2.2.2.2.2.2.2 | exact (show _ ∧ _ ∧ _ ∧ _ ∧ _ ∧ _ ∧ _ ∧ _ ∧ _ ∧ _ ∧  AllLt _ _ by assumption).2.2.2.2.2.2.2.2.2.2) p9 hp9); first | exact Nat.ne_of_lt h9 | exact Nat.ne_of_gt h9 | omega))
  k_with "pyIter ref" => (refine Held.mk ?_)
  k_with "call ref" => (k_here; (with_reducible show wpAny _ _ (call (Value.ref 263) [Value.int _ _]) _ _ _); k_dflt (refine' tellI_use (s_ifmt _ _ _ _ _ _ _ (by assumption) (by assumption)) (by k_asm) (by k_asm) (by k_asm) (by k_asm) (by k_asm) (by first | exact rfl | assumption) (by ktr_room) (by ktr_units) ?_); intro t9 h9 tk9 F9 N9; (try dsimp only); (try k_fold))
  k_with "exec For Tuple Call cons nil" => (k_here; (rename Fr _ _ _ _ => lF'); (with_unfolding_all refine' For_turns lF' ?_; k_whole))
  k_with "exec For Tuple Name cons cons" => (k_here; (rename Fr _ _ _ _ => lF'); (with_unfolding_all refine' For_else lF' ?_; k_whole))
  trivial

theorem map_twoF {m₀ : Str → Option Value} {a b : Str} : m₀ = fun y => if y = b then m₀ b else if y = a then m₀ a else m₀ y := by
  funext y
  by_cases h1 : y = b
  · rw [if_pos h1, h1]
  · rw [if_neg h1]
    by_cases h2 : y = a
    · rw [if_pos h2, h2]
    · rw [if_neg h2]
theorem lines_Fm2 : True := by
  k_with "call type:enumerate" => (refine Held.mk ?_)
  k_with "call builtin:list.append" => (k_here; k_dflt (refine' appendL (by k_asm) (by k_asm) (by k_upd) (by k_extra "om") ?_; k_whole); intro h' F' N'; (try k_sweep))
  k_with "k_ne" => (first | with_reducible assumption | exact Ne.symm (by with_reducible assumption) | (refine neN ?_; (try dsimp only); first | with_reducible assumption | exact Ne.symm (by with_reducible assumption) | exact Nat.ne_of_lt (by with_reducible assumption) | exact Nat.ne_of_gt (by with_reducible assumption) | exact nl0 (by with_reducible assumption) | exact ng0 (by with_reducible assumption) | exact nl1 (by with_reducible assumption) | exact ng1 (by with_reducible assumption) | exact nl2 (by with_reducible assumption) | exact ng2 (by with_reducible assumption) | exact nl3 (by with_reducible assumption) | exact ng3 (by with_reducible assumption) | exact nl4 (by with_reducible assumption) | exact ng4 (by with_reducible assumption) | exact nl5 (by with_reducible assumption) | exact ng5 (by with_reducible assumption) | exact nl6 (by with_reducible assumption) | exact ng6 (by with_reducible assumption) | exact nl7 (by with_reducible assumption) | exact ng7 (by with_reducible assumption) | exact nl8 (by with_reducible assumption) | exact ng8 (by with_reducible assumption) | exact nl9 (by with_reducible assumption) | exact ng9 (by with_reducible assumption) | omega))
  trivial

noncomputable def fmT (x : Int) (i : Nat) (c : Cell) : Bool := if i = 0 then Builtin.bitAnd x 61440 == c.b else Builtin.bitAnd x c.b == c.b
noncomputable def fmC (x : Int) (i : Nat) (row : List Cell) : Str := match row.find? (fmT x i) with
  | some c => c.c
  | none => if i = 0 then Str.ofString "?" else Str.ofString "-"
noncomputable def fmL (x : Int) : List Str := cells.mapIdx fun i r => fmC x i r.2
inductive JFm (x : Int) (pm : Addr) (news : Led) (m₀ : Str → Option Value) (i : Nat) (m : Str → Option Value) (n : Led) : Prop
  | mk (l : _)
    (c : _)
    (u1 : _)
    (u2 : _)
    (u3 : _)
    (u4 : _)
    (hz0 : l.map (·.1) = (fmL x).take i)
    (hz1 : n = (pm, W.listOf (strValues l).toArray c) :: news)
    (hz2 : m = fun y => if y = Str.ofString "char" then u4 else if y = Str.ofString "bit" then u3 else if y = Str.ofString "table" then u2 else if y = Str.ofString "index" then u1 else m₀ y)
inductive JRow (x : Int) (idx : Nat) (row : List Cell) (news : Led) (m₀ : Str → Option Value) (i : Nat) (m : Str → Option Value) (n : Led) : Prop
  | mk (u3 : _)
    (u4 : _)
    (hz0 : (row.take i).find? (fmT x idx) = none)
    (hz1 : n = news)
    (hz2 : m = fun y => if y = Str.ofString "char" then u4 else if y = Str.ofString "bit" then u3 else m₀ y)
theorem fm_at {i : Nat} {r : Addr × List Cell} (x : Int) (h : cells[i]? = some r) : (fmL x).take (i + 1) = (fmL x).take i ++ [fmC x i r.2] := by
  rw [List.take_add_one]
  congr 1
  unfold fmL
  rw [List.getElem?_mapIdx, h]
  rfl
theorem find_snoc {p : Cell → Bool} {row : List Cell} {k : Nat} {c : Cell} (h : row[k]? = some c) (h0 : (row.take k).find? p = none) (hc : p c = false) : (row.take (k + 1)).find? p = none := by
  rw [List.take_add_one, h]
  simp only [Option.toList_some, List.find?_append, h0, Option.none_or, List.find?_cons, hc, List.find?_nil]
theorem find_hit {p : Cell → Bool} {row : List Cell} {k : Nat} {c : Cell} (h : row[k]? = some c) (h0 : (row.take k).find? p = none) (hc : p c = true) : row.find? p = some c := by
  refine Classical.byContradiction fun hn9 => ?_
  obtain ⟨hlt, hge⟩ := List.getElem?_eq_some_iff.mp h
  refine hn9 ?_
  clear hn9
  have e : row = row.take k ++ c :: row.drop (k + 1) := by
    have h1 := (List.take_append_drop k row).symm
    rw [List.drop_eq_getElem_cons hlt, hge] at h1
    exact h1
  rw [e, List.find?_append, h0, Option.none_or, List.find?_cons, hc]
theorem map_fourF {m₀ : Str → Option Value} {a b : Str} {v1 v2 u1 u2 : Option Value} : (fun y => if y = b then v2 else if y = a then v1 else if y = b then u2 else if y = a then u1 else m₀ y) = fun y => if y = b then v2 else if y = a then v1 else m₀ y := by
  funext y
  by_cases h1 : y = b
  · simp [h1]
  · by_cases h2 : y = a
    · simp [h2]
    · simp [h1, h2]
theorem map_long2 {m₀ : Str → Option Value} {a b c d : Str} {A B A2 B2 C D C2 D2 : Option Value} :
    (fun y => if y = d then A else if y = c then B else if y = b then C else if y = a then D else if y = d then A2 else if y = c then B2 else if y = b then C2 else if y = a then D2 else m₀ y) = fun y => if y = d then A else if y = c then B else if y = b then C else if y = a then D else m₀ y := by
  funext y
  by_cases h1 : y = d
  · rw [if_pos h1, if_pos h1]
  · by_cases h2 : y = c
    · rw [if_neg h1, if_pos h2, if_neg h1, if_pos h2]
    · by_cases h3 : y = b
      · rw [if_neg h1, if_neg h2, if_pos h3, if_neg h1, if_neg h2, if_pos h3]
      · by_cases h4 : y = a
        · rw [if_neg h1, if_neg h2, if_neg h3, if_pos h4, if_neg h1, if_neg h2, if_neg h3, if_pos h4]
        · simp only [if_neg h1, if_neg h2, if_neg h3, if_neg h4]
theorem map_long {m₀ : Str → Option Value} {a b c d : Str} {A B A1 B1 A2 B2 C D C2 D2 : Option Value} :
    (fun y => if y = d then A else if y = c then B else if y = d then A1 else if y = c then B1 else if y = b then C else if y = a then D else if y = d then A2 else if y = c then B2 else if y = b then C2 else if y = a then D2 else m₀ y) = fun y => if y = d then A else if y = c then B else if y = b then C else if y = a then D else m₀ y := by
  funext y
  by_cases h1 : y = d
  · rw [if_pos h1, if_pos h1]
  · by_cases h2 : y = c
    · rw [if_neg h1, if_pos h2, if_neg h1, if_pos h2]
    · rw [if_neg h1, if_neg h2, if_neg h1, if_neg h2]
      by_cases h3 : y = b
      · simp only [if_neg h1, if_neg h2, if_pos h3]
      · by_cases h4 : y = a
        · simp only [if_neg h1, if_neg h2, if_neg h3, if_pos h4]
        · simp only [if_neg h1, if_neg h2, if_neg h3, if_neg h4]
theorem map_self4 {m₀ : Str → Option Value} {a b c d : Str} : m₀ = fun y => if y = d then m₀ d else if y = c then m₀ c else if y = b then m₀ b else if y = a then m₀ a else m₀ y := by
  funext y
  by_cases h1 : y = d
  · rw [if_pos h1, h1]
  · rw [if_neg h1]
    by_cases h2 : y = c
    · rw [if_pos h2, h2]
    · rw [if_neg h2]
      by_cases h3 : y = b
      · rw [if_pos h3, h3]
      · rw [if_neg h3]
        by_cases h4 : y = a
        · rw [if_pos h4, h4]
        · rw [if_neg h4]
theorem lines_Fm3 : True := by
  k_with "call builtin:str.join" => (k_here; k_dflt (refine' join_listW (by exact ⟨_, News.get (by k_asm) (by k_mem), rfl, _, rfl⟩) (by (simp only [List.toList_toArray]; assumption)) (by decide) (by assumption) ?_))
  trivial

theorem strsAre_values (l : List (Str × Tok)) : StrsAre (strValues l) (l.map (·.1)) := by
  induction l with
  | nil => exact .nil
  | cons p l ih => exact .cons p.1 p.2 ih
theorem sum_le_len : ∀ (l : List Str), (∀ y ∈ l, y.length ≤ 1) → (l.map (·.length)).sum ≤ l.length
  | [], _ => Nat.le_refl _
  | y :: l, h => by
    have h1 := h y (.head _)
    have h2 := sum_le_len l fun z hz => h z (.tail _ hz)
    simp only [List.map_cons, List.sum_cons, List.length_cons]
    omega
theorem fmL_weight (x : Int) : ((fmL x).map (·.length)).sum + (fmL x).length ≤ 1048576 := by
  have h1 : (fmL x).length = 10 := by simp [fmL, cells]
  have h2 : ∀ y ∈ fmL x, y.length ≤ 1 := by
    intro y hy
    refine Classical.byContradiction fun hn9 => ?_
    obtain ⟨i, hi, rfl⟩ := List.mem_mapIdx.mp hy
    refine hn9 ?_
    clear hn9
    have h3 : ∀ r ∈ cells, ∀ c ∈ r.2, c.c.length ≤ 1 := by decide +kernel
    show (fmC x i cells[i].2).length ≤ 1
    unfold fmC
    split
    · rename_i c hc
      exact h3 _ (List.getElem_mem hi) c (List.mem_of_find?_eq_some hc)
    · split <;> decide
  have := sum_le_len _ h2
  omega
section
variable {prog : Program} {w : World} {A : Around} {E : Value → Shared → Prop} {s : Shared} {env : Env} {h₀ : Heap} {body orelse : List Stmt} {target : PySem.Expr} {Q : Flow → Shared → Prop}
theorem iterFm {elts : List PySem.Expr} {k : Nat} {pos : Pos} {x : Int} {l pm : Addr} {items : Array Value} {m₀ : Str → Option Value} {news : Led}
    (hh : A.handled = none) (F : Fr h₀ env.locals s.heap m₀) (N : News h₀ env.locals s.heap ((pm, W.listOf #[] 0) :: news)) (hl : h₀.IsTuple l items)
    (turn : ∀ i x' m₁ news₁ h tk I io I2 io2 T t, i < items.size → items[i]? = some x' → JFm x pm news m₀ i m₁ news₁ → (∀ p ∈ news₁, p.1 ≠ I ∧ p.1 ≠ I2) → @Ne Nat I I2 → IsTup h T #[.int (i : Nat) t, x'] → Fr h₀ env.locals h m₁ → News h₀ env.locals h ((I, io) :: (I2, io2) :: news₁) →
      wpAny (model prog w) A (assign (.Tuple elts k pos) env (.ref T)) (fun _ s₃ => wpAny (model prog w) A (execs body env) (TurnEnd2 h₀ env.locals I I2 io io2 (JFm x pm news m₀ (i + 1)) s Q) E s₃) E { s with heap := h, toks := tk })
    (done : ∀ m₁ news₁ h tk, JFm x pm news m₀ items.size m₁ news₁ → Fr h₀ env.locals h m₁ → News h₀ env.locals h news₁ → Q .next { s with heap := h, toks := tk }) :
    wpAny (model prog w) A (call (.type "enumerate") [.ref l]) (fun xv s₁ => wpAny (model prog w) A (pyIter xv) (fun it s₂ => TurnsAt prog w A h₀ env (.Tuple elts k pos) body Q E it s₂) E s₁) E s :=
  iterEnum (JFm x pm news) hh F N hl ⟨[], 0, _, _, _, _, rfl, rfl, map_self4⟩ turn done
end
theorem filemode_c (w : World) (mean : ExcName → Option Value) (mg mb : Str → Option Value) (x : Int) (t : Tok) (news : Led) (h0 : 0 ≤ x) (h1 : x < 65536) :
    Tell w mean mg mb 3 40 310 [.int x t] news (fun v n' => n' = news ∧ ∃ t, v = .str (Txt.join (Str.ofString "") (fmL x)) t) := by
  unfold Tell
  k_fill
  intro dp un gd cn cs a ccd cl outer A₀ base h₀ L m
  intro s Q E B F X N T hk hdp hun hret
  refine wpAny_call ?_
  k_dflt ktr_enter
  refine wpAny_noRaise ?_
  rename Fr h₀ _ _ _ => FG0
  rename Fr _ _ _ _ => F90
  have F91 := fr_map F90 (look_one (Str.ofString "mode") (.int x t))
  clear F90
  k_steps
  refine Held.of ?_
  rename Fr _ _ _ _ => F2
  rename News _ _ _ _ => N2
  rename Frag.In _ _ => X2
  refine Classical.byContradiction fun hn9 => ?_
  obtain ⟨t1, t2⟩ := tab_in X2
  refine hn9 ?_
  clear hn9
  k_dflt (refine iterFm (items := (cells.map fun r => Value.ref r.1).toArray) (x := x) rfl F2 N2 ⟨_, t1, rfl, 0, rfl⟩ ?turn ?done)
  case turn =>
    intro i xv m₁ news₁ h tk I io I2 io2 T tT hi hx hp914 hoff hII hT F₁ N₁
    refine Classical.byContradiction fun hn9 => ?_
    obtain ⟨l, c, u1, u2, u3, u4, hl, rfl, rfl⟩ := hp914
    refine hn9 ?_
    clear hn9
    clear F2 N2
    obtain ⟨r, hr, rfl⟩ : ∃ r, cells[i]? = some r ∧ xv = .ref r.1 := by
      simp only [List.getElem?_toArray, List.getElem?_map, Option.map_eq_some_iff] at hx
      refine Classical.byContradiction fun hn9 => ?_
      obtain ⟨r, h1, h2⟩ := hx
      refine hn9 ?_
      clear hn9
      exact ⟨r, h1, h2.symm⟩
    have hrm := t2 r (List.mem_of_getElem? hr)
    have hll : (strValues l).length ≤ 10 := by
      have h3 := congrArg List.length hl
      simp only [List.length_map, List.length_take] at h3
      have h4 : (fmL x).length = 10 := by simp [fmL, cells]
      simp only [strValues, List.length_map]
      omega
    simp only [List.forall_mem_cons] at hoff
    refine Classical.byContradiction fun hn9 => ?_
    obtain ⟨⟨e0, e1⟩, e2⟩ := hoff
    refine hn9 ?_
    clear hn9
    k_steps
    refine Held.of ?_
    rename Fr _ _ _ _ => F3
    rename News _ _ _ _ => N3
    k_dflt (refine iterElse (items := (r.2.map fun c => Value.ref c.a).toArray) (JRow x i r.2 _) rfl F3 N3 ⟨_, hrm.1, rfl, 0, rfl⟩ ⟨_, _, rfl, rfl, map_twoF⟩ ?turnR ?doneR)
    case turnR =>
      intro k cv m₂ news₂ h tk I3 io3 hx3 hp99 hoff3 F₃ N₃
      refine Classical.byContradiction fun hn9 => ?_
      obtain ⟨u3, u4, hf, rfl, rfl⟩ := hp99
      refine hn9 ?_
      clear hn9
      clear F3 N3
      obtain ⟨cc, hcc, rfl⟩ : ∃ cc, r.2[k]? = some cc ∧ cv = .ref cc.a := by
        simp only [List.getElem?_toArray, List.getElem?_map, Option.map_eq_some_iff] at hx3
        refine Classical.byContradiction fun hn9 => ?_
        obtain ⟨r, h1, h2⟩ := hx3
        refine hn9 ?_
        clear hn9
        exact ⟨r, h1, h2.symm⟩
      have hT3 : IsTup h cc.a #[.int cc.b cc.tb, .str cc.c cc.tc] := ⟨_, F₃.keep _ _ (hrm.2 cc (List.mem_of_getElem? hcc)), rfl, _, rfl⟩
      simp only [List.forall_mem_cons] at hoff3
      refine Classical.byContradiction fun hn9 => ?_
      obtain ⟨f0, f1, f2, f3⟩ := hoff3
      refine hn9 ?_
      clear hn9
      cases hc : fmT x i cc with
      | true =>
        have hfind := find_hit hcc hf hc
        by_cases hi0 : i = 0
        · unfold fmT at hc
          rw [if_pos hi0] at hc
          have hib : (((i : Nat) : Int) == 0) = true := by rw [hi0]; rfl
          k_steps
          (try dsimp only [TurnEnd])
          k_steps
          rename Fr _ _ _ _ => F8
          rename News _ _ _ _ => N8
          rw [strValues_snoc] at N8
          refine TurnEnd2.fin (.inl rfl) F8 (cb_drop N8 (fun q hq => .tail _ hq)) (by simp only [List.forall_mem_cons]; exact ⟨⟨e0, e1⟩, e2⟩) ⟨l ++ [(cc.c, cc.tc)], _, _, _, _, _, ?_, rfl, map_long⟩
          rw [fm_at x hr, ← hl, List.map_append]
          simp [fmC, hfind]
        · unfold fmT at hc
          rw [if_neg hi0] at hc
          have hib : (((i : Nat) : Int) == 0) = false := by
            rw [beq_eq_false_iff_ne]; omega
          k_steps
          (try dsimp only [TurnEnd])
          k_steps
          rename Fr _ _ _ _ => F8
          rename News _ _ _ _ => N8
          rw [strValues_snoc] at N8
          refine TurnEnd2.fin (.inl rfl) F8 (cb_drop N8 (fun q hq => .tail _ hq)) (by simp only [List.forall_mem_cons]; exact ⟨⟨e0, e1⟩, e2⟩) ⟨l ++ [(cc.c, cc.tc)], _, _, _, _, _, ?_, rfl, map_long⟩
          rw [fm_at x hr, ← hl, List.map_append]
          simp [fmC, hfind]
      | false =>
        by_cases hi0 : i = 0
        · have hc' := hc
          unfold fmT at hc
          rw [if_pos hi0] at hc
          have hib : (((i : Nat) : Int) == 0) = true := by rw [hi0]; rfl
          k_steps
          rename Fr _ _ _ _ => F8
          rename News _ _ _ _ => N8
          exact TurnEnd.fin (.inl rfl) F8 N8 (by simp only [List.forall_mem_cons]; exact ⟨f0, f1, f2, f3⟩) ⟨_, _, find_snoc hcc hf hc', rfl, map_fourF⟩
        · have hc' := hc
          unfold fmT at hc
          rw [if_neg hi0] at hc
          have hib : (((i : Nat) : Int) == 0) = false := by
            rw [beq_eq_false_iff_ne]; omega
          k_steps
          rename Fr _ _ _ _ => F8
          rename News _ _ _ _ => N8
          exact TurnEnd.fin (.inl rfl) F8 N8 (by simp only [List.forall_mem_cons]; exact ⟨f0, f1, f2, f3⟩) ⟨_, _, find_snoc hcc hf hc', rfl, map_fourF⟩
    case doneR =>
      intro m₂ news₂ h tk hp94 F₃ N₃
      refine Classical.byContradiction fun hn9 => ?_
      obtain ⟨u3, u4, hf, rfl, rfl⟩ := hp94
      refine hn9 ?_
      clear hn9
      clear F3 N3
      rw [List.take_of_length_le (by simp)] at hf
      by_cases hi0 : i = 0
      · have hib : (((i : Nat) : Int) == 0) = true := by rw [hi0]; rfl
        k_steps
        rename Fr _ _ _ _ => F8
        rename News _ _ _ _ => N8
        rw [strValues_snoc] at N8
        refine TurnEnd2.fin (.inl rfl) F8 N8 (by simp only [List.forall_mem_cons]; exact ⟨⟨e0, e1⟩, e2⟩) ⟨l ++ [(Str.ofString "?", _)], _, _, _, _, _, ?_, rfl, map_long2⟩
        rw [fm_at x hr, ← hl, List.map_append]
        simp only [fmC, hf]
        simp [hi0]
      · have hib : (((i : Nat) : Int) == 0) = false := by
          rw [beq_eq_false_iff_ne]; omega
        k_steps
        rename Fr _ _ _ _ => F8
        rename News _ _ _ _ => N8
        rw [strValues_snoc] at N8
        refine TurnEnd2.fin (.inl rfl) F8 N8 (by simp only [List.forall_mem_cons]; exact ⟨⟨e0, e1⟩, e2⟩) ⟨l ++ [(Str.ofString "-", _)], _, _, _, _, _, ?_, rfl, map_long2⟩
        rw [fm_at x hr, ← hl, List.map_append]
        simp only [fmC, hf]
        simp [hi0]
  case done =>
    intro m₁ news₁ h tk hp94 F₁ N₁
    refine Classical.byContradiction fun hn9 => ?_
    obtain ⟨l, c, u1, u2, u3, u4, hl, rfl, rfl⟩ := hp94
    refine hn9 ?_
    clear hn9
    clear F2 N2
    have hl10 : (fmL x).length = 10 := by simp [fmL, cells]
    rw [List.take_of_length_le (by simp [hl10, cells])] at hl
    have hsa : StrsAre (strValues l) (fmL x) := by rw [← hl]; exact strsAre_values l
    have hw := fmL_weight x
    dsimp only
    k_steps
    all_goals exact hret _ _ _ _ ⟨rfl, _, rfl⟩ (by k_asm) (cb_drop (by assumption) (by kcj_all))
end Mine
-- Ct
open PySem PySem.W PySem.Calls PyProof.Rows
namespace Mine

section
variable {prog : Program} {w : World} {A₀ : Around} {E : Value → Shared → Prop} {s' : Shared} {base g g₀ G : Heap} {outer : List Env} {L a e t C : Addr} {m : Str → Option Value} {name : Str} {scope : Scope} {cd : Value} {cl : List (Str × Addr)}
  {KF : Frag} {p : Program} {loose : List Str} {mean : ExcName → Option Value} {mg mb : Str → Option Value} {news : Led} {vs : List Value} {x : Str} {np pos : Pos} {b₀ : Stmt} {suite : List Stmt} {rest : List ExceptHandler} {Q : Flow → Shared → Prop}
/-- a frame with cells takes an exception of an own class that came out of a callee -/
theorem caughtX (R : RaisedS base G (envX name scope L a cd cl :: outer) e (.ref C) t vs news s'.heap) (F : Fr g L G m) (Kb : Below A₀ base outer g) (hsm : G.UpToSlots s'.heap) (XB : KF.In base) (TB : Top p loose mean mg mb base)
    (ex : nsIn KF mainGlobals x = some (some (.ref C))) (q : ktsIn KF C "BaseException" = true)
    (k : ∀ h' g', KtsTurn (outer.filterMap (·.frame)) g g' → Fr g' L h' m → News g' L h' news → Below A₀ base outer g' →
      wpAny (model prog w) ((A₀.deeper (envX name scope L a cd cl)).mark (some (.ref e))) (execs (b₀ :: suite) (envX name scope L a cd cl)) Q E { s' with heap := h' })
    (hk : scope.kind = .function := by rfl) (hx : (envX name scope L a cd cl).kindOf x = some .globalImplicit := by rfl) (hd : (x == ("__debug__" : Str)) = false := by decide)
    (hE : PassesOwnAt (model prog w) ((A₀.deeper (envX name scope L a cd cl)).mark (some (.ref e))) (A₀.deeper (envX name scope L a cd cl)) (envX name scope L a cd cl) E := by passes_own) :
    wpAny (model prog w) (A₀.deeper (envX name scope L a cd cl)) (noteFrame (.ref e) (envX name scope L a cd cl))
      (fun _ s₂ => wpAny (model prog w) (A₀.deeper (envX name scope L a cd cl)) (setFlight (.ref e) none) (fun _ s₃ =>
        wpAny (model prog w) (A₀.deeper (envX name scope L a cd cl)) (handleBy (.ref e) (envX name scope L a cd cl) (.ExceptHandler (some (.Name x np)) none (b₀ :: suite) pos :: rest)) Q E s₃) E s₂) E s' := by
  refine Classical.byContradiction fun hn9 => ?_
  obtain ⟨⟨B, hB, hBG, hl, hfl, hnew⟩, htup⟩ := R
  refine hn9 ?_
  clear hn9
  have hBG' : ∀ b o, G.get? b = some o → b ∉ (envOf name scope L a cd :: outer).filterMap (·.frame) → B.get? b = some o := hBG
  have hL : B.get? L = none := by
    refine Classical.byContradiction fun hn9 => ?_
    obtain ⟨_, ⟨L', _, hf, hn', _⟩, _⟩ := hfl.2.2.1
    refine hn9 ?_
    clear hn9
    obtain rfl : L = L' := Option.some.inj hf
    exact hn'
  refine wpAny_looks_onW (Around.frames_deeper Kb.stack) rfl hfl fun h₄ hheld₄ hsm₄ => ?_
  refine wpAny_landsW hheld₄ fun h₅ hheld hsm₅' => ?_
  have hsm₅ := hsm₄.trans hsm₅'
  refine Classical.byContradiction fun hn9 => ?_
  obtain ⟨g₅, T₅, F₅, K₅⟩ := kts_ground Kb F hBG' hheld.1 (hsm.trans hsm₅)
  refine hn9 ?_
  clear hn9
  have X₅ : KF.In g₅ := XB.keeps K₅.stays
  have P₅ : TopRead p loose mg mb g₅ := topRead_of (TB.keeps K₅.stays)
  refine Classical.byContradiction fun hn9 => ?_
  obtain ⟨ob, hob, hobc⟩ := hheld.there
  refine hn9 ?_
  clear hn9
  refine Classical.byContradiction fun hn9 => ?_
  obtain ⟨_, _, _, _, _, _, _, _, _, _, _, _, _, _, _, _, _, hC, hbase, _⟩ := kts_cls X₅ q
  refine hn9 ?_
  clear hn9
  refine wpAny_handleBy_cons (codeAny_handlers_test (nameX_K F₅ X₅ P₅ ex ?_ hk hx hd)) (by intro z; cases z)
  refine wpAny_excMatches_sub_self (F₅.keep _ _ hC) hob hobc hbase (codeAny_handlers_suite ?_)
  refine lands_againW hheld fun h₆ hfl₆ hsm₆ => ?_
  refine Classical.byContradiction fun hn9 => ?_
  obtain ⟨g₆, T₆, F₆, K₆⟩ := kts_ground Kb F hBG' hfl₆.1 ((hsm.trans hsm₅).trans hsm₆)
  refine hn9 ?_
  clear hn9
  exact wpAny_passesOwnAt hE (k h₆ g₆ T₆ F₆ (fun z hz => ⟨hfl₆.1 _ _ (hl z hz).1, (fun y => by have := (hl z hz).1; rw [y, hL] at this; cases this), T₆.none_ _ (kts_none F.keep (hl z hz).2.1)⟩) K₆)
end
section
variable {prog : Program} {w : World} {A₀ A : Around} {s : Shared} {base h₀ g h : Heap} {outer : List Env} {L L' f : Addr} {m m' : Str → Option Value} {ce : Env} {news news' : Led}
  {R : Result → Shared → Prop} {name qual : Str} {params : Arguments} {body : List Stmt} {scope : Scope} {dV kV doc pm cdv ct oc : Value} {an od : Option Addr} {osl : Array (Option Value)} {args : Args} {binds : List (Str × Value)}
  {K : Frag} {p : Program} {loose : List Str} {mean : ExcName → Option Value} {mg mb : Str → Option Value}
theorem enterCK (hf : ce.frame = some L) (hke : ce.scope.kind = .function) (B : Below A₀ base outer h₀) (F : Fr h₀ L s.heap m) (X₀ : K.In h₀) (N : News h₀ L s.heap news) (T : Top p loose mean mg mb h₀) (XB : K.In base) (TB : Top p loose mean mg mb base) (D : KtsDicts (outer.filterMap (·.frame)) h₀)
    (hA : A.frames = some (ce :: outer)) (ho : K.lookup f = some ⟨oc, od, .func (fnX name qual params body scope [] dV kV doc pm an cdv ct), osl⟩) (hcd : codeIn K cdv qual = true) (hroom : A.depth < recursionLimit)
    (hbind : BindsTo s (fnX name qual params body scope [] dV kV doc pm an cdv ct) args binds)
    (hkind : (binds.all fun y => scope.names.lookup y.1 == some .local || scope.names.lookup y.1 == some .cell) = true)
    (hnd : ((cellsFrom 0 scope.names []).map (·.1)).Nodup)
    (h : ∀ g L' h₁ tk cells, Fr h₀ L g m → Fr g L' h₁ (bindL (envOfC qual scope L' f cdv).kindOf binds fun _ => none) → News g L' h₁ (cells ++ news) →
      CellsAre (bindC (envOfC qual scope L' f cdv).kindOf binds fun _ => none) (cellsFrom (L' + 1) scope.names []) cells → (∀ p ∈ news, p.1 < L') → Below A base (ce :: outer) g → K.In g → Top p loose mean mg mb g → KtsDicts ((ce :: outer).filterMap (·.frame)) g →
      wpAny (model prog w) (A.deeper (envOfC qual scope L' f cdv)) (execs body (envOfC qual scope L' f cdv))
        (fun fl s' => LeaveS ((ce :: outer).filterMap (·.frame)) A₀ base outer K p loose mean mg mb h₀ h₀ L m g R (match fl with | .ret v => v | _ => .none) s')
        (fun e s' => wpAny (model prog w) (A.deeper (envOfC qual scope L' f cdv)) (leaving (envOfC qual scope L' f cdv) e) (fun _ s'' => R (.error e) s'') (fun e' s'' => R (.error e') s'') s')
        { s with heap := h₁, toks := tk })
    (hco : scope.isCoroutine = false) (hgen : scope.isGenerator = false) (hk : scope.kind = .function) : codeAny (model prog w) A (.call (.ref f) args) R s :=
  enterCC hf hke B F X₀ N T XB TB D hA ho hcd hroom hbind (kindsX hkind) hnd h hco hgen hk
end
end Mine
-- Fl
open PySem PySem.W PySem.Calls PyProof.Rows
namespace Mine

/-- a file with its tuple's address and tokens -/
structure FI where
  f : Fil
  ta : Addr
  tm : Tok
  tt : Tok
  tg : Tok
noncomputable def FI.obj (i : FI) : Addr × Obj := (i.ta, { cls := .type "tuple", data := .seq #[.int i.f.mode i.tm, .str i.f.text i.tt, .str i.f.goal i.tg] })
noncomputable def FI.kv (i : FI) : Str × Value := (i.f.name, .ref i.ta)
noncomputable def filsOf (l : List FI) : List Fil := l.map (·.f)
structure FilesAt (w : World) (d : Addr) (od : Obj) (l : List FI) (news : Led) : Prop where
  mem : (d, od) ∈ news
  dict : od.IsDictOf (strKind PySem.Challenge.rw_pd0160_01.row.prog w) (l.map FI.kv)
  tup : ∀ i ∈ l, i.obj ∈ news
  low : (d == sysModules) = false
/-- what holds of the drawn files -/
structure WF (fs : List Fil) : Prop where
  gf : GF dirF fs
  len : fs.length ≤ 10
  ok : ∀ f ∈ fs, PyData.strOk f.name = true
  nlen : ∀ f ∈ fs, f.name.length ≤ 100 ∧ f.text.length ≤ 100 ∧ f.goal.length ≤ 100
  link : ∀ f ∈ fs, f.goal ≠ sE → f.mode = 41471 ∧ normF (joinF (dirF f.name) f.text) = f.goal
  plain : ∀ f ∈ fs, f.goal = sE → (8192 ≤ f.mode ∧ f.mode < 12288) ∨ (32768 ≤ f.mode ∧ f.mode < 36864)
  norm : ∀ f ∈ fs, f.goal ≠ sE → ∀ x, x = joinF (dirF f.name) f.text → x.length ≤ 4096 ∧ (x.length : Int) ≠ 0 ∧ (Txt.split (Txt.slice x (some 1) none) (Str.ofString "/")).length ≤ 8192 ∧
    ((normC x).map (·.length)).sum + (normC x).length ≤ 1048576 ∧ (Txt.join (Str.ofString "/") (normC x)).length ≤ 4096 ∧
    (Txt.slice x none (some 1) != Str.ofString "/") = false ∧ (Txt.slice x (some 1) (some 2) != Str.ofString "/") = true
end Mine
-- Gs
open PySem PySem.W PySem.Calls PyProof.Rows
namespace Mine

theorem Tell.sub {w : World} {mean : ExcName → Option Value} {mg mb : Str → Option Value} {D U : Nat} {f : Addr} {args : List Value} {news news2 : Led} {Post : Value → Led → Prop}
    (C : Tell w mean mg mb D U f args news Post) (h : ∀ p ∈ news, p ∈ news2) : Tell w mean mg mb D U f args news2 Post := by
  intro dp un gd cn cs a ccd cl outer A₀ base h₀ L m s Q E B F X N T hk hdp hun hret
  exact C dp un gd cn cs a ccd cl outer A₀ base h₀ L m s Q E B F X (cb_drop N h) T hk hdp hun hret
theorem TellG.sub {w : World} {mean : ExcName → Option Value} {mg mb : Str → Option Value} {D U : Nat} {f : Addr} {args : List Value} {news news2 : Led} {Post : Value → Led → Prop} {PostE : Led → Prop}
    (C : TellG w mean mg mb D U f args news Post PostE) (h : ∀ p ∈ news, p ∈ news2) : TellG w mean mg mb D U f args news2 Post PostE := by
  intro dp un gd cn cs a ccd cl outer A₀ base h₀ L m s Q E B F X N T XB TB KD hk hdp hun hret hexc
  exact C dp un gd cn cs a ccd cl outer A₀ base h₀ L m s Q E B F X (cb_drop N h) T XB TB KD hk hdp hun hret hexc
theorem readyOf_names (l : List Info) (hn : (nmL l).Nodup) : (readyOf l).map (·.1) = (nmL l).filter fun y => decide (npL l y = 0) := by
  have key : ∀ j ∈ l, npL l j.name = j.np := fun j hj => by
    refine Classical.byContradiction fun hn9 => ?_
    obtain ⟨A, B, rfl⟩ := List.append_of_mem hj
    refine hn9 ?_
    clear hn9
    exact np_self hn
  unfold readyOf nmL
  rw [List.map_map, List.filter_map]
  have : l.filter (fun j => j.np == 0) = l.filter ((fun y => decide (npL l y = 0)) ∘ fun i => i.name) := by
    apply List.filter_congr
    intro j hj
    show (j.np == 0) = decide (npL l j.name = 0)
    rw [key j hj]
    rfl
  rw [this]
  rfl
noncomputable def namesOf (es : List (Str × Str)) : List Str := es.foldl (fun n e => addName (addName n e.1) e.2) []
theorem addName_mem {l : List Str} {x y : Str} : y ∈ addName l x ↔ y ∈ l ∨ y = x := by
  unfold addName
  split
  · constructor
    · exact .inl
    · rintro (h | rfl) <;> assumption
  · simp
theorem addName_nd {l : List Str} {x : Str} (h : l.Nodup) : (addName l x).Nodup := by
  unfold addName
  split
  · exact h
  · rw [List.nodup_append]
    refine ⟨h, by simp, ?_⟩
    intro a ha b hb e
    rw [List.mem_singleton.mp hb] at e
    subst e
    contradiction
theorem namesOf_snoc (es : List (Str × Str)) (e : Str × Str) : namesOf (es ++ [e]) = addName (addName (namesOf es) e.1) e.2 := by
  unfold namesOf; rw [List.foldl_append]; rfl
theorem snoc_rec {α : Type} {P : List α → Prop} (h0 : P []) (hs : ∀ l a, P l → P (l ++ [a])) (l : List α) : P l := by
  have : ∀ l : List α, P l.reverse := by
    intro l
    induction l with
    | nil => exact h0
    | cons a l ih => rw [List.reverse_cons]; exact hs _ _ ih
  have h := this l.reverse
  rwa [List.reverse_reverse] at h
theorem namesOf_mem {es : List (Str × Str)} {y : Str} : y ∈ namesOf es ↔ ∃ e ∈ es, y = e.1 ∨ y = e.2 := by
  refine snoc_rec (P := fun es => y ∈ namesOf es ↔ ∃ e ∈ es, y = e.1 ∨ y = e.2) (by simp [namesOf]) (fun l a ih => ?_) es
  rw [namesOf_snoc, addName_mem, addName_mem, ih]
  constructor
  · rintro ((⟨e, he, h⟩ | h) | h)
    · exact ⟨e, by simp [he], h⟩
    · exact ⟨a, by simp, .inl h⟩
    · exact ⟨a, by simp, .inr h⟩
  · intro hp90
    refine Classical.byContradiction fun hn9 => ?_
    obtain ⟨e, he, h⟩ := hp90
    refine hn9 ?_
    clear hn9
    rcases List.mem_append.mp he with he | he
    · exact .inl (.inl ⟨e, he, h⟩)
    · rw [List.mem_singleton.mp he] at h
      rcases h with h | h
      · exact .inl (.inr h)
      · exact .inr h
theorem namesOf_nd (es : List (Str × Str)) : (namesOf es).Nodup :=
  snoc_rec (P := fun es => (namesOf es).Nodup) (by simp [namesOf]) (fun l a ih => by rw [namesOf_snoc]; exact addName_nd (addName_nd ih)) es
/-- the sorter holds the graph of the edges es -/
structure GS (w : World) (S : Srt) (es : List (Str × Str)) : Prop where
  ok : S.Ok w
  rv : S.rv = .none
  nm : nmL S.infos = namesOf es
  np : ∀ y, npL S.infos y = (es.filter fun e => decide (e.1 = y)).length
  ss : ∀ y, ssL S.infos y = ssE es y
theorem GS.ssl {w : World} {S : Srt} {es : List (Str × Str)} (h : GS w S es) : ∀ i ∈ S.infos, i.ss.length ≤ es.length := by
  intro i hi
  have h1 := ss_of h.ok hi
  rw [h.ss] at h1
  have h2 := congrArg List.length h1
  unfold ssE at h2
  simp only [List.length_map] at h2
  have := List.length_filter_le (fun e : Str × Str => decide (e.2 = i.name)) es
  omega
theorem namesOf_len (es : List (Str × Str)) : (namesOf es).length ≤ 2 * es.length := by
  refine snoc_rec (P := fun es => (namesOf es).length ≤ 2 * es.length) (by simp [namesOf]) (fun l a ih => ?_) es
  have h : ∀ (l : List Str) x, (addName l x).length ≤ l.length + 1 := by
    intro l x; unfold addName; split <;> simp
  rw [namesOf_snoc]
  have h1 := h (addName (namesOf l) a.1) a.2
  have h2 := h (namesOf l) a.1
  simp only [List.length_append, List.length_cons, List.length_nil]
  omega
theorem GS.len {w : World} {S : Srt} {es : List (Str × Str)} (h : GS w S es) : S.infos.length ≤ 2 * es.length := by
  have h1 := congrArg List.length h.nm
  unfold nmL at h1
  rw [List.length_map] at h1
  have := namesOf_len es
  omega
theorem add_step (w : World) (mean : ExcName → Option Value) (mg mb : Str → Option Value) (X : Led) (S : Srt) (es : List (Str × Str)) (x p : Str) (tx tp : Tok) (tl : Led) (hG : GS w S es) (hl : es.length ≤ 400) (hN : ND (X ++ S.led w tl)) :
    Tell w mean mg mb 5 40 202 [.ref S.self, .str x tx, .str p tp] (X ++ S.led w tl) (fun v n' => v = .none ∧ ∃ od' l, n' = X ++ ({ S with od := od', infos := l } : Srt).led w tl ∧ ND n' ∧ GS w { S with od := od', infos := l } (es ++ [(x, p)])) := by
  have hp := led_tl w S X tl
  have h1 := hG.len
  have C := add_c w mean mg mb S x p tx tp (X ++ tl) hG.ok (ND.perm hN hp.symm) (by omega) hG.rv (fun i hi => Nat.le_trans (hG.ssl i hi) (by omega))
  refine (C.sub (news2 := X ++ S.led w tl) (fun q hq => hp.subset hq)).weaken ?_
  intro v n hp92
  refine Classical.byContradiction fun hn9 => ?_
  obtain ⟨od', l, rfl, rfl, hnd, hok, _, hnm, hnp, hss⟩ := hp92
  refine hn9 ?_
  clear hn9
  have hp2 := led_tl w ({ S with od := od', infos := l } : Srt) X tl
  refine ⟨_, ⟨rfl, od', l, rfl, ND.perm hnd hp2, hok, hG.rv, ?_, ?_, ?_⟩, fun q hq => hp2.symm.subset hq⟩
  · rw [namesOf_snoc, ← hG.nm]; exact hnm
  · intro y
    dsimp only
    rw [hnp, hG.np, List.filter_append]
    by_cases e : y = x
    · subst e; simp
    · rw [if_neg e]
      have : decide (x = y) = false := decide_eq_false (Ne.symm e)
      simp [List.filter_cons, this]
  · intro y
    dsimp only
    rw [hss, hG.ss]
    unfold ssE
    rw [List.filter_append, List.map_append]
    by_cases e : y = p
    · subst e; simp
    · rw [if_neg e]
      have : decide (p = y) = false := decide_eq_false (Ne.symm e)
      simp [List.filter_cons, this]
end Mine
-- Fil2
open PySem PySem.W PySem.Calls PyProof.Rows
namespace Mine

inductive LeadsAre : List (Str × Value) → List Fil → Prop
  | nil : LeadsAre [] []
  | plain {l : List (Str × Value)} {fs : List Fil} {f : Fil} : LeadsAre l fs → f.goal = sE → LeadsAre l (fs ++ [f])
  | link {l : List (Str × Value)} {fs : List Fil} {f : Fil} (t : Tok) : LeadsAre l fs → f.goal ≠ sE → LeadsAre (l ++ [(f.name, .str f.goal t)]) (fs ++ [f])
theorem leads_sub {l : List (Str × Value)} {fs : List Fil} (h : LeadsAre l fs) : ∀ p ∈ l, ∃ f ∈ fs, p.1 = f.name ∧ f.goal ≠ sE ∧ ∃ t, p.2 = .str f.goal t := by
  induction h with
  | nil => simp
  | plain _ _ ih => intro p hp; obtain ⟨f, hf, r⟩ := ih p hp; exact ⟨f, by simp [hf], r⟩
  | @link l fs f t _ hg ih =>
    intro p hp
    rcases List.mem_append.mp hp with hp | hp
    · obtain ⟨f, hf, r⟩ := ih p hp; exact ⟨f, by simp [hf], r⟩
    · rw [List.mem_singleton.mp hp]; exact ⟨f, by simp, rfl, hg, t, rfl⟩
theorem leads_has {l : List (Str × Value)} {fs : List Fil} (h : LeadsAre l fs) : ∀ f ∈ fs, f.goal ≠ sE → ∃ t, (f.name, Value.str f.goal t) ∈ l := by
  induction h with
  | nil => simp
  | plain _ hg ih =>
    intro g hgm hgg
    rcases List.mem_append.mp hgm with hgm | hgm
    · exact ih g hgm hgg
    · rw [List.mem_singleton.mp hgm] at hgg; exact absurd hg hgg
  | @link l fs f t _ hg ih =>
    intro g hgm hgg
    rcases List.mem_append.mp hgm with hgm | hgm
    · obtain ⟨t, ht⟩ := ih g hgm hgg; exact ⟨t, by simp [ht]⟩
    · rw [List.mem_singleton.mp hgm]; exact ⟨t, by simp⟩
theorem leads_len {l : List (Str × Value)} {fs : List Fil} (h : LeadsAre l fs) : l.length ≤ fs.length := by
  induction h with
  | nil => simp
  | plain _ _ ih => simp; omega
  | link _ _ _ ih => simp; omega
theorem valueAt_stored {kvs : List (Str × Value)} {k : Str} {v : Value} (h : valueAt kvs k = none) : valueAt (stored kvs k v) k = some v := by
  rw [stored_new h]
  unfold valueAt at h ⊢
  rw [Option.map_eq_none_iff] at h
  rw [List.find?_append, h]
  simp
theorem leads_off {l : List (Str × Value)} {fs : List Fil} (h : LeadsAre l fs) {x : Str} (hx : ∀ f ∈ fs, f.name ≠ x) : valueAt l x = none := by
  cases q : valueAt l x with
  | none => rfl
  | some v =>
    obtain ⟨f, hf, e, _⟩ := leads_sub h _ (valueAt_mem q)
    exact absurd e.symm (hx f hf)
theorem take_off {l : List FI} (hn : ((filsOf l).map (·.name)).Nodup) {i : Nat} {fi : FI} (h : l[i]? = some fi) : ∀ f ∈ filsOf (l.take i), f.name ≠ fi.f.name := by
  obtain ⟨hlt, hge⟩ := List.getElem?_eq_some_iff.mp h
  have e : l = l.take i ++ fi :: l.drop (i + 1) := by
    have h1 := (List.take_append_drop i l).symm
    rw [List.drop_eq_getElem_cons hlt, hge] at h1
    exact h1
  intro f hf q
  unfold filsOf at hn hf
  rw [e, List.map_append, List.map_append, List.nodup_append] at hn
  refine hn.2.2 f.name (List.mem_map_of_mem hf) fi.f.name (by simp) q
theorem take_snocF {l : List FI} {i : Nat} {fi : FI} (h : l[i]? = some fi) : filsOf (l.take (i + 1)) = filsOf (l.take i) ++ [fi.f] := by
  unfold filsOf
  rw [List.take_add_one, h, List.map_append]
  rfl
theorem fi_val {w : World} {d : Addr} {od : Obj} {fis : List FI} {news : Led} (h : FilesAt w d od fis news) {fi : FI} (hf : fi ∈ fis) : valueAt (fis.map FI.kv) fi.f.name = some (.ref fi.ta) := by
  obtain ⟨_, _, _, _, _, _, hn⟩ := h.dict
  exact valueAt_of_mem hn (List.mem_map.mpr ⟨fi, hf, rfl⟩)
theorem edges_snoc (dr : Str → Str) (fs : List Fil) (f : Fil) : edgesOf dr (fs ++ [f]) = edgesOf dr fs ++ ((f.name, dr f.name) :: if f.goal = sE then [] else [(f.name, f.goal)]) := by
  unfold edgesOf
  rw [List.flatMap_append]
  simp
theorem edges_len (dr : Str → Str) (fs : List Fil) : (edgesOf dr fs).length ≤ 2 + 2 * fs.length := by
  refine snoc_rec (P := fun fs => (edgesOf dr fs).length ≤ 2 + 2 * fs.length) (by simp [edgesOf]) (fun l a ih => ?_) fs
  rw [edges_snoc]
  have : (if a.goal = sE then ([] : List (Str × Str)) else [(a.name, a.goal)]).length ≤ 1 := by split <;> simp
  simp only [List.length_append, List.length_cons, List.length_nil]
  omega
theorem land_top (n k : Nat) (hk : k < 16) (h1 : 4096 * k ≤ n) (h2 : n < 4096 * (k + 1)) : n &&& 61440 = 4096 * k := by
  have e : n = 2 ^ 12 * k + (n - 4096 * k) := by omega
  have hlt : n - 4096 * k < 2 ^ 12 := by omega
  apply Nat.eq_of_testBit_eq
  intro i
  rw [Nat.testBit_and, e, Nat.testBit_two_pow_mul_add _ hlt]
  rw [show 4096 * k = 2 ^ 12 * k by rfl, Nat.testBit_two_pow_mul, show (61440 : Nat) = 2 ^ 12 * 15 by rfl, Nat.testBit_two_pow_mul]
  by_cases hi : i < 12
  · rw [if_pos hi]
    have : ¬ (12 ≤ i) := by omega
    simp [this]
  · rw [if_neg hi]
    have h12 : 12 ≤ i := by omega
    simp only [ge_iff_le, h12, decide_true, Bool.true_and]
    by_cases hj : i - 12 < 4
    · have : ∀ j, j < 4 → Nat.testBit 15 j = true := by decide
      rw [this _ hj, Bool.and_true]
    · have h16 : k < 2 ^ (i - 12) := Nat.lt_of_lt_of_le hk (by
        have : 2 ^ 4 ≤ 2 ^ (i - 12) := Nat.pow_le_pow_right (by decide) (by omega)
        simpa using this)
      rw [Nat.testBit_lt_two_pow h16, Bool.false_and]
theorem band_top {x : Int} (k : Nat) (hk : k < 16) (h1 : 4096 * (k : Int) ≤ x) (h2 : x < 4096 * ((k : Int) + 1)) : Builtin.bitAnd x 61440 = 4096 * (k : Int) := by
  have h0 : 0 ≤ x := by omega
  have e : x = (x.toNat : Int) := (Int.toNat_of_nonneg h0).symm
  have := land_top x.toNat k hk (by omega) (by omega)
  show Spec.bitAnd x 61440 = _
  unfold Spec.bitAnd
  rw [decide_eq_true h0]
  simp only [show decide ((0 : Int) ≤ 61440) = true by decide]
  show ((x.toNat &&& (61440 : Int).toNat : Nat) : Int) = _
  rw [show (61440 : Int).toNat = 61440 by decide, this]
  push_cast
  rfl
theorem plain_bit {x : Int} (h : (8192 ≤ x ∧ x < 12288) ∨ (32768 ≤ x ∧ x < 36864)) : (Builtin.bitAnd x 61440 == 40960) = false := by
  rcases h with h | h
  · rw [band_top 2 (by decide) (by omega) (by omega)]; decide
  · rw [band_top 8 (by decide) (by omega) (by omega)]; decide
end Mine
-- Srt1
open PySem PySem.W PySem.Calls PyProof.Rows
namespace Mine

/-- the tree of questions, answered by an oracle -/
noncomputable def runT {α : Type} (o : Nat → Nat → Bool) : KasT α → α
  | .ret a => a
  | .ask i j k => runT o (k (o i j))
theorem runT_bind {α β : Type} {o : Nat → Nat → Bool} {f : α → KasT β} : ∀ t : KasT α, runT o (t.bind f) = runT o (f (runT o t))
  | .ret _ => rfl
  | .ask i j k => runT_bind (k (o i j))
theorem kasWp_run {α : Type} {o : Nat → Nat → Bool} {P : Shared → Prop} {cmp : Nat → Nat → (Bool → Shared → Prop) → Shared → Prop} (hc : ∀ i j C s, P s → (∀ s', P s' → C (o i j) s') → cmp i j C s) {Q : α → Shared → Prop} :
    ∀ (t : KasT α) (s : Shared), P s → (∀ s', P s' → Q (runT o t) s') → t.kasWp cmp Q s
  | .ret a, s, hP, hq => hq s hP
  | .ask i j k, s, hP, hq => hc i j _ s hP fun s' hP' => kasWp_run hc (k (o i j)) s' hP' hq
section
variable {K : Nat → Nat} {p : Array Nat}
/-- the first n places are in order -/
noncomputable def Up (K : Nat → Nat) (p : Array Nat) (n : Nat) : Prop := ∀ i, i + 1 < n → K (p.getD i 0) ≤ K (p.getD (i + 1) 0)
noncomputable def orc (K : Nat → Nat) (i j : Nat) : Bool := decide (K i < K j)
theorem run_asc : ∀ (f n : Nat), 1 ≤ n → Up K p n → ∃ m, runT (orc K) (kas_asc p f n) = m ∧ n ≤ m ∧ m ≤ n + f ∧ Up K p m ∧ (m < n + f → K (p.getD m 0) < K (p.getD (m - 1) 0))
  | 0, n, h1, hu => ⟨n, rfl, Nat.le_refl _, Nat.le_refl _, hu, fun h => absurd h (Nat.lt_irrefl _)⟩
  | f + 1, n, h1, hu => by
    show ∃ m, runT (orc K) (if orc K (p.getD n 0) (p.getD (n - 1) 0) = true then KasT.ret n else kas_asc p f (n + 1)) = m ∧ _
    by_cases h : K (p.getD n 0) < K (p.getD (n - 1) 0)
    · have : orc K (p.getD n 0) (p.getD (n - 1) 0) = true := decide_eq_true h
      rw [if_pos this]
      exact ⟨n, rfl, Nat.le_refl _, by omega, hu, fun _ => h⟩
    · have : ¬ (orc K (p.getD n 0) (p.getD (n - 1) 0) = true) := by unfold orc; simpa using h
      rw [if_neg this]
      have hu' : Up K p (n + 1) := by
        intro i hi
        by_cases e : i + 1 < n
        · exact hu i e
        · have : i + 1 = n := by omega
          subst this
          simpa using Nat.le_of_not_lt h
      obtain ⟨m, h2, h3, h4, h5, h6⟩ := run_asc f (n + 1) (by omega) hu'
      exact ⟨m, h2, by omega, by omega, h5, fun h => h6 (by omega)⟩
noncomputable def Down (K : Nat → Nat) (p : Array Nat) (n : Nat) : Prop := ∀ i, i + 1 < n → K (p.getD (i + 1) 0) < K (p.getD i 0)
theorem run_desc (hd : ∀ i, i + 1 < p.size → K (p.getD (i + 1) 0) ≠ K (p.getD i 0)) : ∀ (f n : Nat), 1 ≤ n → n + f ≤ p.size → Down K p n → ∃ m, runT (orc K) (kas_desc f p n 0) = (p, m, 0) ∧ n ≤ m ∧ m ≤ n + f ∧ Down K p m
  | 0, n, h1, hs, hu => ⟨n, rfl, Nat.le_refl _, Nat.le_refl _, hu⟩
  | f + 1, n, h1, hs, hu => by
    show ∃ m, runT (orc K) (if orc K (p.getD n 0) (p.getD (n - 1) 0) = true then (if 0 > 0 then kas_desc f (kas_rev p (n - (0 + 1)) n) (n + 1) 0 else kas_desc f p (n + 1) 0)
      else .ask (p.getD (n - 1) 0) (p.getD n 0) fun d => if d = true then .ret (p, n, 0) else kas_desc f p (n + 1) (0 + 1)) = (p, m, 0) ∧ _
    by_cases h : K (p.getD n 0) < K (p.getD (n - 1) 0)
    · have : orc K (p.getD n 0) (p.getD (n - 1) 0) = true := decide_eq_true h
      rw [if_pos this, if_neg (by omega)]
      have hu' : Down K p (n + 1) := by
        intro i hi
        by_cases e : i + 1 < n
        · exact hu i e
        · have : i + 1 = n := by omega
          subst this
          simpa using h
      obtain ⟨m, h2, h3, h4, h5⟩ := run_desc hd f (n + 1) (by omega) (by omega) hu'
      exact ⟨m, h2, by omega, by omega, h5⟩
    · have : ¬ (orc K (p.getD n 0) (p.getD (n - 1) 0) = true) := by unfold orc; simpa using h
      rw [if_neg this]
      have hne := hd (n - 1) (by omega)
      rw [show n - 1 + 1 = n by omega] at hne
      have h2 : orc K (p.getD (n - 1) 0) (p.getD n 0) = true := by unfold orc; exact decide_eq_true (by omega)
      refine ⟨n, ?_, Nat.le_refl _, by omega, hu⟩
      show runT (orc K) (if orc K (p.getD (n - 1) 0) (p.getD n 0) = true then .ret (p, n, 0) else kas_desc f p (n + 1) (0 + 1)) = _
      rw [if_pos h2]
      rfl
theorem getD_of {p q : Array Nat} {i j : Nat} (h : p[i]? = q[j]?) : p.getD i 0 = q.getD j 0 := by
  rw [Array.getD_eq_getD_getElem?, Array.getD_eq_getD_getElem?, h]
theorem rev_up {m : Nat} (hm : m ≤ p.size) (hd : Down K p m) : Up K (kas_rev p 0 m) m := by
  intro i hi
  have h1 : (kas_rev p 0 m).getD i 0 = p.getD (m - 1 - i) 0 := getD_of (by
    unfold kas_rev
    rw [getElem?_mirror_all hm, if_pos ⟨Nat.zero_le _, by omega⟩]
    congr 1; omega)
  have h2 : (kas_rev p 0 m).getD (i + 1) 0 = p.getD (m - 1 - (i + 1)) 0 := getD_of (by
    unfold kas_rev
    rw [getElem?_mirror_all hm, if_pos ⟨Nat.zero_le _, by omega⟩]
    congr 1; omega)
  rw [h1, h2]
  have := hd (m - 1 - (i + 1)) (by omega)
  rw [show m - 1 - (i + 1) + 1 = m - 1 - i by omega] at this
  exact Nat.le_of_lt this
theorem up_mono {n : Nat} (hu : Up K p n) : ∀ b, b < n → ∀ a, a ≤ b → K (p.getD a 0) ≤ K (p.getD b 0) := by
  intro b
  induction b with
  | zero => intro _ a ha; have : a = 0 := by omega
            subst this; exact Nat.le_refl _
  | succ b ih =>
    intro hb a ha
    by_cases e : a = b + 1
    · subst e; exact Nat.le_refl _
    · exact Nat.le_trans (ih (by omega) a (by omega)) (hu b hb)
theorem run_count (h2 : 2 ≤ p.size) (hd : ∀ a b, a < p.size → b < p.size → a ≠ b → K (p.getD a 0) ≠ K (p.getD b 0)) :
    ∃ m p', runT (orc K) (kas_count p.size p) = (m, p') ∧ p'.Perm p ∧ p'.size = p.size ∧ 1 ≤ m ∧ m ≤ p.size ∧ Up K p' m := by
  unfold kas_count
  rw [runT_bind]
  obtain ⟨n, e1, e2, e3, e4, e5⟩ := run_asc (K := K) (p := p) (p.size - 1) 1 (Nat.le_refl _) (fun i hi => by omega)
  rw [e1]
  by_cases hn : n = p.size
  · rw [if_pos (by simpa using hn)]
    exact ⟨n, p, rfl, .refl _, rfl, e2, by omega, e4⟩
  · rw [if_neg (by simpa using hn)]
    by_cases h1 : n > 1
    · rw [if_pos h1]
      have hlt : K (p.getD 0 0) < K (p.getD (n - 1) 0) := by
        have h3 := up_mono e4 (n - 1) (by omega) 0 (by omega)
        have h4 := hd 0 (n - 1) (by omega) (by omega) (by omega)
        omega
      have ho : orc K (p.getD 0 0) (p.getD (n - 1) 0) = true := decide_eq_true hlt
      refine ⟨n, p, ?_, .refl _, rfl, e2, by omega, e4⟩
      show runT (orc K) (if orc K (p.getD 0 0) (p.getD (n - 1) 0) = true then KasT.ret (n, p) else kas_descPart n p.size (kas_rev p 0 n)) = _
      rw [if_pos ho]
      rfl
    · rw [if_neg h1]
      have hn1 : n = 1 := by omega
      subst hn1
      have hlt := e5 (by omega)
      unfold kas_descPart
      rw [runT_bind]
      obtain ⟨m, f1, f2, f3, f4⟩ := run_desc (K := K) (p := p) (fun i hi => hd (i + 1) i (by omega) (by omega) (by omega)) (p.size - (1 + 1)) (1 + 1) (by omega) (by omega) (fun i hi => by
        have : i = 0 := by omega
        subst this; simpa using hlt)
      rw [f1]
      dsimp only
      rw [if_neg (by omega)]
      unfold kas_tail3
      rw [runT_bind]
      have hsz : (kas_rev p 0 m).size = p.size := mirror_size _ _ _ _
      obtain ⟨n', g1, g2, g3, g4, _⟩ := run_asc (K := K) (p := kas_rev p 0 m) (p.size - m) m (by omega) (rev_up (by omega) f4)
      rw [g1]
      exact ⟨n', kas_rev p 0 m, rfl, mirror_perm _ _ _ _, hsz, by omega, by omega, g4⟩
theorem run_place {k : Nat} (hu : Up K p k) : ∀ (f l r : Nat), r - l ≤ f → l ≤ r → r ≤ k → (∀ a, a < l → K (p.getD a 0) ≤ K (p.getD k 0)) → (∀ a, r ≤ a → a < k → K (p.getD k 0) < K (p.getD a 0)) →
    ∃ m, runT (orc K) (kas_place p k f l r) = m ∧ m ≤ k ∧ (∀ a, a < m → K (p.getD a 0) ≤ K (p.getD k 0)) ∧ (∀ a, m ≤ a → a < k → K (p.getD k 0) < K (p.getD a 0))
  | 0, l, r, hf, hlr, hr, h1, h2 => ⟨l, rfl, by omega, h1, fun a ha => h2 a (by omega)⟩
  | f + 1, l, r, hf, hlr, hr, h1, h2 => by
    show ∃ m, runT (orc K) (if l ≥ r then .ret l else .ask (p.getD k 0) (p.getD ((l + r) / 2) 0) fun c => if c = true then kas_place p k f l ((l + r) / 2) else kas_place p k f ((l + r) / 2 + 1) r) = m ∧ _
    by_cases h : l ≥ r
    · rw [if_pos h]
      exact ⟨l, rfl, by omega, h1, fun a ha => h2 a (by omega)⟩
    · rw [if_neg h]
      show ∃ m, runT (orc K) (if orc K (p.getD k 0) (p.getD ((l + r) / 2) 0) = true then kas_place p k f l ((l + r) / 2) else kas_place p k f ((l + r) / 2 + 1) r) = m ∧ _
      by_cases hc : K (p.getD k 0) < K (p.getD ((l + r) / 2) 0)
      · rw [if_pos (show orc K (p.getD k 0) (p.getD ((l + r) / 2) 0) = true from decide_eq_true hc)]
        refine run_place hu f l ((l + r) / 2) (by omega) (by omega) (by omega) h1 fun a ha hk => ?_
        exact Nat.lt_of_lt_of_le hc (up_mono hu a hk _ ha)
      · rw [if_neg (show ¬ orc K (p.getD k 0) (p.getD ((l + r) / 2) 0) = true by unfold orc; simpa using hc)]
        refine run_place hu f ((l + r) / 2 + 1) r (by omega) (by omega) (by omega) (fun a ha => ?_) h2
        exact Nat.le_trans (up_mono hu ((l + r) / 2) (by omega) a (by omega)) (Nat.le_of_not_lt hc)
theorem bub_at {k l : Nat} (hk : k < p.size) (hl : l ≤ k) (i : Nat) : (bubble p k (k - l)).getD i 0 = if i = l then p.getD k 0 else if l < i ∧ i ≤ k then p.getD (i - 1) 0 else p.getD i 0 := by
  have h := getElem?_bubble hk (k - l) (by omega) i
  rw [show k - (k - l) = l by omega] at h
  by_cases h1 : i = l
  · rw [if_pos h1] at h ⊢; exact getD_of h
  · rw [if_neg h1] at h ⊢
    by_cases h2 : l < i ∧ i ≤ k
    · rw [if_pos h2] at h ⊢; exact getD_of h
    · rw [if_neg h2] at h ⊢; exact getD_of h
theorem run_bin : ∀ (f : Nat) (p : Array Nat) (k : Nat), 1 ≤ k → k + f = p.size → Up K p k → ∃ q, runT (orc K) (kas_bin f p k) = q ∧ q.Perm p ∧ q.size = p.size ∧ Up K q p.size
  | 0, p, k, _, hs, hu => ⟨p, rfl, .refl _, rfl, by rw [← hs]; exact hu⟩
  | f + 1, p, k, hk, hs, hu => by
    show ∃ q, runT (orc K) ((kas_place p k k 0 k).bind fun l => kas_bin f (bubble p k (k - l)) (k + 1)) = q ∧ _
    rw [runT_bind]
    obtain ⟨l, e1, e2, e3, e4⟩ := run_place hu k 0 k (by omega) (by omega) (Nat.le_refl _) (fun a ha => absurd ha (Nat.not_lt_zero _)) (fun a h1 h2 => absurd h2 (by omega))
    rw [e1]
    have hkp : k < p.size := by omega
    have hup : Up K (bubble p k (k - l)) (k + 1) := by
      intro i hi
      rw [bub_at hkp e2, bub_at hkp e2]
      by_cases h1 : i = l
      · subst h1
        rw [if_pos rfl, if_neg (by omega), if_pos ⟨by omega, by omega⟩]
        have := e4 i (Nat.le_refl _) (by omega)
        simpa using Nat.le_of_lt this
      · rw [if_neg h1]
        by_cases h2 : i + 1 = l
        · rw [if_pos h2, if_neg (by omega)]
          exact e3 i (by omega)
        · rw [if_neg h2]
          by_cases h3 : l < i
          · rw [if_pos ⟨h3, by omega⟩, if_pos ⟨by omega, by omega⟩]
            have := hu (i - 1) (by omega)
            rw [show i - 1 + 1 = i by omega] at this
            simpa using this
          · rw [if_neg (by omega), if_neg (by omega)]
            exact hu i (by omega)
    have hsz : (bubble p k (k - l)).size = p.size := bubble_size _ _ _
    obtain ⟨q, f1, f2, f3, f4⟩ := run_bin f (bubble p k (k - l)) (k + 1) (by omega) (by rw [hsz]; omega) hup
    exact ⟨q, f1, f2.trans (bubble_perm _ _ _), by rw [f3, hsz], by rw [hsz] at f4; exact f4⟩
/-- the sort's tree, answered by the order of K, gives the numbers below n in K's order -/
theorem run_sort {n : Nat} (h2 : 2 ≤ n) (hd : ∀ a b, a < n → b < n → a ≠ b → K a ≠ K b) : ∃ q, runT (orc K) (kas_sort n) = q ∧ q.toList.Perm (List.range n) ∧ ∀ i, i + 1 < n → K (q.getD i 0) ≤ K (q.getD (i + 1) 0) := by
  unfold kas_sort
  rw [runT_bind]
  have hsz : (List.toArray (List.range n)).size = n := by simp
  have hget : ∀ a, a < n → (List.toArray (List.range n)).getD a 0 = a := fun a ha => by simp [ha]
  obtain ⟨m, p', e1, e2, e3, e4, e5, e6⟩ := run_count (K := K) (p := List.toArray (List.range n)) (by rw [hsz]; exact h2) (fun a b ha hb hab => by
    rw [hsz] at ha hb
    rw [hget a ha, hget b hb]
    exact hd a b ha hb hab)
  rw [hsz] at e1 e3 e5
  rw [e1]
  dsimp only
  have hp : ∀ q : Array Nat, q.Perm p' → q.toList.Perm (List.range n) := fun q h => by
    have := (h.trans e2).toList
    simpa using this
  by_cases h : m < n
  · rw [if_pos h]
    have hm : max m 1 = m := by omega
    rw [hm]
    obtain ⟨q, f1, f2, f3, f4⟩ := run_bin (K := K) (n - m) p' m e4 (by omega) e6
    exact ⟨q, f1, hp q f2, by rw [e3] at f4; exact f4⟩
  · rw [if_neg h]
    have : m = n := by omega
    subst this
    exact ⟨p', rfl, hp p' (.refl _), e6⟩
end
end Mine
-- Srt2
open PySem PySem.W PySem.Calls PyProof.Rows
namespace Mine

/-- every question of the tree is about numbers below n -/
noncomputable def GoodT {α : Type} (n : Nat) (R : α → Prop) : KasT α → Prop
  | .ret a => R a
  | .ask i j k => i < n ∧ j < n ∧ ∀ b, GoodT n R (k b)
theorem good_bind {α β : Type} {n : Nat} {R : α → Prop} {R' : β → Prop} {f : α → KasT β} (hf : ∀ a, R a → GoodT n R' (f a)) : ∀ t : KasT α, GoodT n R t → GoodT n R' (t.bind f)
  | .ret a, h => hf a h
  | .ask _ _ k, h => ⟨h.1, h.2.1, fun b => good_bind hf (k b) (h.2.2 b)⟩
theorem kasWp_run2 {α : Type} {o : Nat → Nat → Bool} {n : Nat} {R : α → Prop} {P : Shared → Prop} {cmp : Nat → Nat → (Bool → Shared → Prop) → Shared → Prop} (hc : ∀ i j C s, i < n → j < n → P s → (∀ s', P s' → C (o i j) s') → cmp i j C s) {Q : α → Shared → Prop} :
    ∀ (t : KasT α) (s : Shared), GoodT n R t → P s → (∀ s', P s' → Q (runT o t) s') → t.kasWp cmp Q s
  | .ret _, s, _, hP, hq => hq s hP
  | .ask i j k, s, hg, hP, hq => hc i j _ s hg.1 hg.2.1 hP fun s' hP' => kasWp_run2 hc (k (o i j)) s' (hg.2.2 _) hP' hq
noncomputable def AllN (n : Nat) (p : Array Nat) : Prop := ∀ x ∈ p.toList, x < n
theorem AllN.get {n : Nat} {p : Array Nat} (h : AllN n p) (h0 : 0 < n) (i : Nat) : p.getD i 0 < n := by
  rw [Array.getD_eq_getD_getElem?]
  cases e : p[i]? with
  | none => exact h0
  | some x =>
    refine h x ?_
    rw [← Array.getElem?_toList] at e
    exact List.mem_of_getElem? e
theorem AllN.perm {n : Nat} {p q : Array Nat} (h : AllN n p) (hp : q.Perm p) : AllN n q := fun x hx => h x (hp.toList.mem_iff.mp hx)
section
variable {n : Nat} (h0 : 0 < n)
include h0
theorem good_asc {p : Array Nat} (hp : AllN n p) : ∀ f k, GoodT n (fun _ => True) (kas_asc p f k)
  | 0, _ => trivial
  | f + 1, k => by
    refine ⟨hp.get h0 _, hp.get h0 _, fun b => ?_⟩
    cases b
    · exact good_asc hp f (k + 1)
    · exact trivial
theorem good_desc : ∀ f p k q, AllN n p → GoodT n (fun r => AllN n r.1) (kas_desc f p k q)
  | 0, _, _, _, hp => hp
  | f + 1, p, k, q, hp => by
    refine ⟨hp.get h0 _, hp.get h0 _, fun b => ?_⟩
    cases b
    · refine ⟨hp.get h0 _, hp.get h0 _, fun b => ?_⟩
      cases b
      · exact good_desc f p (k + 1) (q + 1) hp
      · exact hp
    · show GoodT n _ (if q > 0 then _ else _)
      split
      · exact good_desc f _ _ _ (hp.perm (mirror_perm _ _ _ _))
      · exact good_desc f _ _ _ hp
theorem good_tail {p : Array Nat} (hp : AllN n p) (a b : Nat) : GoodT n (fun r => AllN n r.2) (kas_tail3 a b p) := by
  have h : AllN n (kas_rev p 0 a) := hp.perm (mirror_perm _ _ _ _)
  refine good_bind (R := fun _ => True) (fun m _ => ?_) _ (good_asc h0 h _ _)
  exact h
theorem good_dpart {p : Array Nat} (hp : AllN n p) (a b : Nat) : GoodT n (fun r => AllN n r.2) (kas_descPart a b p) := by
  refine good_bind (R := fun r => AllN n r.1) (fun r hr => ?_) _ (good_desc h0 _ _ _ _ hp)
  split
  · exact good_tail h0 (AllN.perm hr (mirror_perm _ _ _ _)) _ _
  · exact good_tail h0 hr _ _
theorem good_count {p : Array Nat} (hp : AllN n p) (a : Nat) : GoodT n (fun r => AllN n r.2) (kas_count a p) := by
  refine good_bind (fun k _ => ?_) _ (good_asc h0 hp _ _)
  split
  · exact hp
  · split
    · refine ⟨hp.get h0 _, hp.get h0 _, fun b => ?_⟩
      cases b
      · exact good_dpart h0 (hp.perm (mirror_perm _ _ _ _)) _ _
      · exact hp
    · exact good_dpart h0 hp _ _
theorem good_place {p : Array Nat} (hp : AllN n p) (k : Nat) : ∀ f l r, GoodT n (fun _ => True) (kas_place p k f l r)
  | 0, _, _ => trivial
  | f + 1, l, r => by
    show GoodT n _ (if l ≥ r then _ else _)
    split
    · exact trivial
    · refine ⟨hp.get h0 _, hp.get h0 _, fun b => ?_⟩
      cases b
      · exact good_place hp k f _ _
      · exact good_place hp k f _ _
theorem good_bin : ∀ f p k, AllN n p → GoodT n (fun _ => True) (kas_bin f p k)
  | 0, _, _, _ => trivial
  | f + 1, p, k, hp => good_bind (fun _ _ => good_bin f _ _ (hp.perm (bubble_perm _ _ _))) _ (good_place h0 hp k _ _ _)
theorem good_sort : GoodT n (fun _ => True) (kas_sort n) := by
  refine good_bind (R := fun r => AllN n r.2) (fun r hr => ?_) _ (good_count h0 (p := List.toArray (List.range n)) (fun x hx => by simpa using hx) _)
  split
  · exact good_bin h0 _ _ _ hr
  · exact trivial
end
/-- the order of strs -/
noncomputable abbrev sLt (a b : Str) : Prop := a.cps.toList < b.cps.toList
theorem sLt_irrefl (a : Str) : ¬ sLt a a := List.lt_irrefl _
theorem sLt_trans {a b c : Str} (h : sLt a b) (k : sLt b c) : sLt a c := List.lt_trans h k
theorem sLt_tri {a b : Str} (h : a ≠ b) : sLt a b ∨ sLt b a := by
  have hne : a.cps.toList ≠ b.cps.toList := fun e => h (by cases a; cases b; congr 1; exact Array.toList_inj.mp e)
  by_cases q : sLt a b
  · exact .inl q
  · right
    have h1 : b.cps.toList ≤ a.cps.toList := List.not_lt.mp q
    exact Classical.byContradiction fun h2 => hne (List.le_antisymm (List.not_lt.mp h2) h1)
noncomputable def rank (ks : List Str) (x : Str) : Nat := (ks.filter fun y => decide (sLt y x)).length
theorem filter_le {l : List Str} {p q : Str → Bool} (h : ∀ x, p x = true → q x = true) : (l.filter p).length ≤ (l.filter q).length := by
  induction l with
  | nil => simp
  | cons a r ih =>
    rw [List.filter_cons, List.filter_cons]
    by_cases hp : p a = true
    · rw [if_pos hp, if_pos (h a hp)]; simp only [List.length_cons]; omega
    · rw [if_neg hp]
      split
      · simp only [List.length_cons]; omega
      · exact ih
theorem filter_lt {l : List Str} {p q : Str → Bool} {x : Str} (hx : x ∈ l) (h : ∀ x, p x = true → q x = true) (hp : p x = false) (hq : q x = true) : (l.filter p).length < (l.filter q).length := by
  induction l with
  | nil => cases hx
  | cons a r ih =>
    rw [List.filter_cons, List.filter_cons]
    have hle := filter_le (l := r) h
    rcases List.mem_cons.mp hx with rfl | hx
    · rw [hp, hq]; simp only [Bool.false_eq_true, if_false, if_true, List.length_cons]; omega
    · have := ih hx
      by_cases hp : p a = true
      · rw [if_pos hp, if_pos (h a hp)]; simp only [List.length_cons]; omega
      · rw [if_neg hp]
        split
        · simp only [List.length_cons]; omega
        · exact this
theorem rank_lt {ks : List Str} {a b : Str} (ha : a ∈ ks) (h : sLt a b) : rank ks a < rank ks b :=
  filter_lt ha (fun x hx => decide_eq_true (sLt_trans (of_decide_eq_true hx) h)) (decide_eq_false (sLt_irrefl a)) (decide_eq_true h)
theorem rank_iff {ks : List Str} {a b : Str} (ha : a ∈ ks) (hb : b ∈ ks) : rank ks a < rank ks b ↔ sLt a b := by
  constructor
  · intro h
    by_cases e : a = b
    · subst e; omega
    · rcases sLt_tri e with q | q
      · exact q
      · have := rank_lt hb q; omega
  · exact rank_lt ha
/-- a pair of the list: its tuple's address, the key, and what stands behind it -/
structure PE where
  ta : Addr
  key : Str
  tk : Tok
  v : Addr
noncomputable def PE.obj (p : PE) : Addr × Obj := (p.ta, { cls := .type "tuple", data := .seq #[.str p.key p.tk, .ref p.v] })
noncomputable def PE.ref (p : PE) : Value := .ref p.ta
section
variable {prog : Program} {w : World} {A : Around} {E : Value → Shared → Prop} {s : Shared} {h₀ : Heap} {L l : Addr} {m : Str → Option Value} {news : List (Addr × Obj)} {ps : List PE} {c : Nat} {Q : Value → Shared → Prop}
theorem pe_tups {h : Heap} : ∀ {ps : List PE}, (∀ p ∈ ps, h.get? p.ta = some p.obj.2) → KatTups h (ps.map PE.ref) (ps.map fun p => .str p.key p.tk)
  | [], _ => trivial
  | p :: r, hh => KatTups.cons (hh p (.head _)) rfl rfl (by rfl) (pe_tups fun q hq => hh q (.tail _ hq))
theorem pe_get {d : PE} (i : Nat) (hi : i < ps.length) : (ps.map PE.ref).getD i .none = .ref (ps.getD i d).ta := by
  simp [List.getD, hi, PE.ref]
theorem eqBool_self {a : Addr} {E : Value → Shared → Prop} {Q : Bool → Shared → Prop} (h : Q true s) : wpAny (model prog w) A (eqBool (.ref a) (.ref a)) Q E s := by
  unfold eqBool
  try with_reducible refine wpAny_holding ?_
  show wpAny _ _ (if (Value.ref a == Value.ref a) = true then _ else _) Q E s
  rw [if_pos (by simp)]
  exact wpAny_bind (wpAny_rule (wpAny_pure (by simpa using h)))
theorem pe_ask {h' : Heap} (hh : ∀ p ∈ ps, h'.get? p.ta = some p.obj.2) (hn : (ps.map (·.key)).Nodup) (d : PE) {i j : Nat} {C : Bool → Shared → Prop} {s' : Shared} (hs : s'.heap = h') (hi : i < ps.length) (hj : j < ps.length)
    (hC : C (orc (fun i => rank (ps.map (·.key)) (ps.getD i d).key) i j) s') : kas_ask prog w A (tuples' true) (ps.map PE.ref) i j C s' := by
  unfold kas_ask
  subst hs
  have gi : ps.getD i d ∈ ps := by simp [List.getD, hi]
  have gj : ps.getD j d ∈ ps := by simp [List.getD, hj]
  rw [pe_get (d := d) i hi, pe_get (d := d) j hj]
  have ki : (ps.getD i d).key ∈ ps.map (·.key) := List.mem_map_of_mem gi
  have kj : (ps.getD j d).key ∈ ps.map (·.key) := List.mem_map_of_mem gj
  refine kat_lt (hh _ gi) rfl (hh _ gj) rfl ?_
  show KatLex prog w A true false C ((_, _) :: (_, _) :: []) 0 s'
  refine kat_cons (wpAny_eqBool_str ?_)
  by_cases e : (ps.getD i d).key = (ps.getD j d).key
  · rw [decide_eq_true e]
    refine kat_yes ?_
    have hij : i = j := by
      have h1 : (ps.map (·.key))[i]? = some (ps.getD i d).key := by simp [List.getD, hi]
      have h2 : (ps.map (·.key))[j]? = some (ps.getD j d).key := by simp [List.getD, hj]
      refine (List.getElem?_inj (by simpa using hi) hn).mp ?_
      rw [h1, h2, e]
    subst hij
    refine kat_cons (eqBool_self (kat_yes (kat_nil ?_)))
    have : orc (fun i => rank (ps.map (·.key)) (ps.getD i d).key) i i = false := decide_eq_false (Nat.lt_irrefl _)
    exact this ▸ hC
  · rw [decide_eq_false e]
    refine kat_no ?_
    refine oneLt_str ?_
    have : decide (sLt (ps.getD i d).key (ps.getD j d).key) = orc (fun i => rank (ps.map (·.key)) (ps.getD i d).key) i j := by
      unfold orc
      exact decide_eq_decide.mpr (rank_iff ki kj).symm
    exact this ▸ hC
theorem pair_of {α : Type} {R : α → α → Prop} (ht : ∀ a b c, R a b → R b c → R a c) : ∀ (l : List α), (∀ i a b, l[i]? = some a → l[i + 1]? = some b → R a b) → l.Pairwise R
  | [], _ => .nil
  | [a], _ => by simp
  | a :: b :: r, h => by
    have ih := pair_of ht (b :: r) (fun i x y hx hy => h (i + 1) x y hx hy)
    have hab := h 0 a b rfl rfl
    refine List.pairwise_cons.mpr ⟨fun c hc => ?_, ih⟩
    rcases List.mem_cons.mp hc with rfl | hc
    · exact hab
    · exact ht _ _ _ hab ((List.pairwise_cons.mp ih).1 c hc)
theorem sorted_pe (F : Fr h₀ L s.heap m) (N : News h₀ L s.heap news) (hl : (l, W.listOf (ps.map PE.ref).toArray c) ∈ news) (hps : ∀ p ∈ ps, p.obj ∈ news) (hn : (ps.map (·.key)).Nodup) (h2 : 2 ≤ ps.length) (h64 : ps.length < 64)
    (h : ∀ D e h' tk (qs : List PE), qs.Perm ps → qs.Pairwise (fun a b => sLt a.key b.key) → Fr h₀ L h' m → News h₀ L h' ((D, W.listOf (qs.map PE.ref).toArray e) :: news) → (∀ q ∈ news, q.1 < D) → Q (.ref D) { s with heap := h', toks := tk }) :
    wpAny (model prog w) A (call (.builtin "sorted") [.ref l]) Q E s := by
  obtain ⟨d, hd⟩ : ∃ d, d ∈ ps := by
    cases ps with
    | nil => simp at h2
    | cons a r => exact ⟨a, .head _⟩
  refine kat_sorted (vs := ps.map PE.ref) F N (News.isList N hl) (by simpa using h2) (by simpa using h64) fun D e1 h' F' N' hD => ?_
  have hh : ∀ p ∈ ps, h'.get? p.ta = some p.obj.2 := fun p hp => (N' _ (.tail _ (hps p hp))).1
  refine kat_kind (T := .type "str") (pe_tups hh) (by simp; omega) ?_ (by decide) ?_
  · intro v hv
    obtain ⟨p, _, rfl⟩ := List.mem_map.mp hv
    exact Looks.of_pure rfl
  show (kas_sort _).kasWp (kas_ask prog w _ (tuples' true) _) _ _
  obtain ⟨q, e1', e2, e3⟩ := run_sort (K := fun i => rank (ps.map (·.key)) (ps.getD i d).key) (n := ps.length) h2 (by
    intro a b ha hb hab
    have ga : ps.getD a d ∈ ps := by simp [List.getD, ha]
    have gb : ps.getD b d ∈ ps := by simp [List.getD, hb]
    have hne : (ps.getD a d).key ≠ (ps.getD b d).key := fun e => hab (by
      have h1 : (ps.map (·.key))[a]? = some (ps.getD a d).key := by simp [List.getD, ha]
      have h2 : (ps.map (·.key))[b]? = some (ps.getD b d).key := by simp [List.getD, hb]
      refine (List.getElem?_inj (by simpa using ha) hn).mp ?_
      rw [h1, h2, e])
    rcases sLt_tri hne with q | q
    · exact Nat.ne_of_lt (rank_lt (List.mem_map_of_mem ga) q)
    · exact Nat.ne_of_gt (rank_lt (List.mem_map_of_mem gb) q))
  rw [List.length_map]
  refine kasWp_run2 (n := ps.length) (R := fun _ => True) (o := orc fun i => rank (ps.map (·.key)) (ps.getD i d).key) (P := fun s' => ∃ tk, s' = { s with heap := h', toks := tk }) ?_ _ _ (good_sort (by omega)) ⟨s.toks, rfl⟩ ?_
  · rintro i j C s' hi hj ⟨tk, rfl⟩ hC
    exact pe_ask hh hn d rfl hi hj (hC _ ⟨tk, rfl⟩)
  · rintro s' ⟨tk, rfl⟩
    rw [e1']
    refine KasFin.intro F' N' (.head fun p hp => Nat.ne_of_lt (hD p hp)) fun h2 c F2 N2 => ?_
    have hqs : (q.toList.map fun i => (ps.map PE.ref).getD i .none) = (q.toList.map fun i => ps.getD i d).map PE.ref := by
      rw [List.map_map]
      refine List.map_congr_left fun i hi => ?_
      have : i < ps.length := by simpa using e2.mem_iff.mp hi
      exact pe_get i this
    rw [hqs] at N2
    refine h D c h2 tk _ ?_ ?_ F2 N2 hD
    · have h3 := e2.map fun i => ps.getD i d
      refine h3.trans ?_
      have : (List.range ps.length).map (fun i => ps.getD i d) = ps := by
        refine List.ext_getElem (by simp) fun i h1 h2 => ?_
        simp at h1
        simp [List.getD, h1]
      rw [this]
    · refine pair_of (R := fun a b : PE => sLt a.key b.key) (fun a b c => sLt_trans) _ ?_
      intro i a b ha hb
      have hql : q.toList.length = ps.length := by simpa using e2.length_eq
      rw [List.getElem?_map] at ha hb
      cases ea : q.toList[i]? with
      | none => rw [ea] at ha; cases ha
      | some x =>
        cases eb : q.toList[i + 1]? with
        | none => rw [eb] at hb; cases hb
        | some y =>
          rw [ea] at ha; rw [eb] at hb
          cases ha; cases hb
          have hlt : i + 1 < ps.length := by
            have := (List.getElem?_eq_some_iff.mp eb).1
            omega
          have h3 := e3 i hlt
          have hx : x ∈ q.toList := List.mem_of_getElem? ea
          have hy : y ∈ q.toList := List.mem_of_getElem? eb
          have hxn : x < ps.length := by simpa using e2.mem_iff.mp hx
          have hyn : y < ps.length := by simpa using e2.mem_iff.mp hy
          have gx : q.getD i 0 = x := by
            rw [Array.getD_eq_getD_getElem?, ← Array.getElem?_toList, ea]; rfl
          have gy : q.getD (i + 1) 0 = y := by
            rw [Array.getD_eq_getD_getElem?, ← Array.getElem?_toList, eb]; rfl
          rw [gx, gy] at h3
          have hxy : x ≠ y := by
            intro e
            have hnd : q.toList.Nodup := e2.nodup_iff.mpr List.nodup_range
            have := (List.getElem?_inj (by omega) hnd).mp (ea.trans (e ▸ eb.symm))
            omega
          have mx : ps.getD x d ∈ ps := by simp [List.getD, hxn]
          have my : ps.getD y d ∈ ps := by simp [List.getD, hyn]
          have hne : (ps.getD x d).key ≠ (ps.getD y d).key := fun e => hxy (by
            have h1 : (ps.map (·.key))[x]? = some (ps.getD x d).key := by simp [List.getD, hxn]
            have h2 : (ps.map (·.key))[y]? = some (ps.getD y d).key := by simp [List.getD, hyn]
            refine (List.getElem?_inj (by simpa using hxn) hn).mp ?_
            rw [h1, h2, e])
          rcases sLt_tri hne with z | z
          · exact z
          · have := rank_lt (List.mem_map_of_mem (f := PE.key) my) z
            exact absurd this (Nat.not_lt.mpr h3)
end
end Mine
-- Rw
open PySem PySem.W PySem.Calls PyProof.Rows
namespace Mine


theorem lines_Rw1 : True := by
  k_with_none
  k_with "k_ne" => (first | with_reducible assumption | exact Ne.symm (by with_reducible assumption) | (refine neN ?_; (try dsimp only); first | with_reducible assumption | exact Ne.symm (by with_reducible assumption) | exact Nat.ne_of_lt (by with_reducible assumption) | exact Nat.ne_of_gt (by with_reducible assumption) | exact nl0 (by with_reducible assumption) | exact ng0 (by with_reducible assumption) | exact nl1 (by with_reducible assumption) | exact ng1 (by with_reducible assumption) | exact nl2 (by with_reducible assumption) | exact ng2 (by with_reducible assumption) | exact nl3 (by with_reducible assumption) | exact ng3 (by with_reducible assumption) | exact nl4 (by with_reducible assumption) | exact ng4 (by with_reducible assumption) | exact nl5 (by with_reducible assumption) | exact ng5 (by with_reducible assumption) | exact nl6 (by with_reducible assumption) | exact ng6 (by with_reducible assumption) | exact nl7 (by with_reducible assumption) | exact ng7 (by with_reducible assumption) | exact nl8 (by with_reducible assumption) | exact ng8 (by with_reducible assumption) | exact nl9 (by with_reducible assumption) | exact ng9 (by with_reducible assumption) | omega))
  k_with "room" => (first | exact room0 (by with_reducible assumption) | exact room1 (by with_reducible assumption) (by decide) | exact room2 (by with_reducible assumption) (by decide) | exact room3 (by with_reducible assumption) (by decide))
  k_with "units" => (first | exact unit0 (by with_reducible assumption) | exact unit1 (by with_reducible assumption) (by decide) | exact unit2 (by with_reducible assumption) (by decide) | exact unit3 (by with_reducible assumption) (by decide))
  k_with "om" => (first | with_reducible assumption | with_reducible exact le_lit (by with_reducible assumption) (by decide) | with_reducible exact add_lit (by with_reducible assumption) (by with_reducible assumption) (by with_reducible assumption) (by decide) | with_reducible exact lt_lel (by with_reducible assumption) (by decide) | with_reducible exact sum_lit (by with_reducible assumption) (by with_reducible assumption) (by decide) | with_reducible exact suc_lit (by with_reducible assumption) (by decide) | with_reducible exact lt_lit (by with_reducible assumption) (by decide) | with_reducible exact le_ltl (by with_reducible assumption) (by decide) | with_reducible exact ige_lit (by with_reducible assumption) (by decide) | with_reducible exact ile_lit (by with_reducible assumption) (by decide) | with_reducible exact ilt_lit (by with_reducible assumption) (by decide) | omega)
  k_with "execs cons" => (k_here; k_fold)
  k_with "execs cons" => (k_here; (with_reducible show wpAny _ _ _ _ _ (Shared.mk _ _ _ (_ + _) _)); refine toks_all ?_; intro tk; (try dsimp only))
  k_with "execs nil" => (k_here; (with_reducible show wpAny _ _ _ _ _ (Shared.mk _ _ _ (_ + _) _)); refine toks_all ?_; intro tk; (try dsimp only))
  k_with "eval BinOp" => (k_here; k_fold)
  k_with "eval Call Attribute" => (k_here; k_fold)
  k_with "eval Call Name" => (k_here; k_fold)
  k_with "eval Call" => (k_here; k_fold)
  k_with "eval Subscript" => (k_here; k_fold)
  k_with "eval Compare" => (k_here; k_fold)
  k_with "eval IfExp" => (k_here; k_fold)
  k_with "eval List" => (k_here; k_fold)
  k_with "eval Tuple" => (k_here; k_fold)
  k_with "k_all" => (first | exact allLt_ne (by assumption) | assumption | (intro p9 hp9; refine neN ?_; have h9 := ltN (ktn_ltOf (by first | assumption | exact (show _ ∧  AllLt _ _ by assumption).2 | exact (show _ ∧ _ ∧  AllLt _ _ by assumption).2.2 | exact (show _ ∧ _ ∧ _ ∧  AllLt _ _ by assumption).2.2.2 | exact (show _ ∧ _ ∧ _ ∧ _ ∧  AllLt _ _ by assumption).2.2.2.2 | exact (show _ ∧ _ ∧ _ ∧ _ ∧ _ ∧  AllLt _ _ by assumption).2.2.2.2.2 | exact (show _ ∧ _ ∧ _ ∧ _ ∧ _ ∧ _ ∧  AllLt _ _ by assumption).2.2.2.2.2.2 | exact (show _ ∧ _ ∧ _ ∧ _ ∧ _ ∧ _ ∧ _ ∧  AllLt _ _ by assumption).2.2.2.2.2.2.2 | exact (show _ ∧ _ ∧ _ ∧ _ ∧ _ ∧ _ ∧ _ ∧ _ ∧  AllLt _ _ by assumption).2.2.2.2.2.2.2.2 | exact (show _ ∧ _ ∧ _ ∧ _ ∧ _ ∧ _ ∧ _ ∧ _ ∧ _ ∧  AllLt _ _ by assumption).2.2.2.2.2.2.2.2.2 | exact (show _ ∧ _ ∧ _ ∧ _ ∧ _ ∧ _ ∧ _ ∧ _ ∧ _ ∧ _ ∧  AllLt _ _ by assumption).2.2.2.2.2.2.2.2.2.2) p9 hp9); first | exact Nat.ne_of_lt h9 | exact Nat.ne_of_gt h9 | omega))
  k_with "pyIter ref" => (refine Held.mk ?_)
  k_with "exec For Name Call cons nil" => (k_here; (rename Fr _ _ _ _ => lF'); (with_unfolding_all refine' For_invVF lF' (by exact rfl) (by exact rfl) ?_; k_whole))
  trivial

noncomputable def figI (x : Int) (p : Nat) : Int := Int.fmod (Int.fdiv x (8 ^ (2 - (p : Int)).toNat)) 8
noncomputable def abvI (x : Int) (p : Nat) : Int := Int.fmod (Int.fdiv (Int.fdiv x 512) (2 ^ (2 - (p : Int)).toNat)) 2
noncomputable def lastI (p : Nat) : Str := if p = 2 then Str.ofString "-xTt" else Str.ofString "-xSs"
noncomputable def rowStep (x : Int) (p : Nat) (r : Str) : Str :=
  r ++ (Txt.item (Str.ofString "-r") (Int.fdiv (figI x p) 4) ++ Txt.item (Str.ofString "-w") (Int.fmod (Int.fdiv (figI x p) 2) 2)) ++ Txt.item (lastI p) (Int.fmod (figI x p) 2 + 2 * abvI x p)
noncomputable def rowP (x : Int) : Nat → Str
  | 0 => if Int.fdiv x 4096 == 2 then Str.ofString "c" else Str.ofString "-"
  | p + 1 => rowStep x p (rowP x p)
noncomputable def JRw (x : Int) (news : Led) (m₀ : Str → Option Value) (i : Nat) (m : Str → Option Value) (n : Led) : Prop :=
  n = news ∧ (rowP x i).length = 1 + 3 * i ∧ ∃ t u1 u2 u3, m = fun y => if y = Str.ofString "row" then some (.str (rowP x i) t) else if y = Str.ofString "above" then u1 else if y = Str.ofString "figure" then u2 else if y = Str.ofString "place" then u3 else m₀ y
section
variable {prog : Program} {w : World} {A : Around} {E : Value → Shared → Prop} {s : Shared} {env : Env} {h₀ : Heap} {body : List Stmt} {Q : Flow → Shared → Prop}
theorem map_row {m₀ : Str → Option Value} {v : Option Value} {a b c d : Str} : (fun y => if y = d then v else m₀ y) = fun y => if y = d then v else if y = c then m₀ c else if y = b then m₀ b else if y = a then m₀ a else m₀ y := by
  funext y
  by_cases h1 : y = d
  · rw [if_pos h1, if_pos h1]
  · rw [if_neg h1, if_neg h1]
    by_cases h2 : y = c
    · rw [if_pos h2, h2]
    · rw [if_neg h2]
      by_cases h3 : y = b
      · rw [if_pos h3, h3]
      · rw [if_neg h3]
        by_cases h4 : y = a
        · rw [if_pos h4, h4]
        · rw [if_neg h4]
theorem iterRw {x : Int} {r : Addr} {t u v tr : Tok} {row0 : Str} {m₀ : Str → Option Value} {news : Led} (hrow : row0 = rowP x 0)
    (hh : A.handled = none) (F : Fr h₀ env.locals s.heap (fun y => if y = Str.ofString "row" then some (.str row0 tr) else m₀ y)) (N : News h₀ env.locals s.heap news) (hr : IsRange s.heap r 0 (3 : Nat) 1 t u v)
    (turn : ∀ J, J = JRw x news m₀ → TurnOf prog w A E s env h₀ (Str.ofString "place") body Q 3 (fun i v => ∃ t, v = .int i t) J) (done : DoneOf s env h₀ Q 3 (JRw x news m₀)) :
    wpAny (model prog w) A (pyIter (.ref r)) (fun it s₂ => LoopAtV prog w A h₀ env (Str.ofString "place") body Q E it s₂) E s := by
  subst hrow
  refine iterRange (JRw x news m₀) hh F N hr (by decide) ⟨rfl, ?_, _, _, _, _, map_row⟩ (turn _ rfl) done
  unfold rowP
  split <;> rfl
end
section
variable {prog : Program} {w : World} {A : Around} {E : Value → Shared → Prop} {s : Shared}
theorem itemN {value slice : PySem.Expr} {x : Str} {t : Tok} {i : Int} {u : Tok} {n : Nat} {Q : Value → Shared → Prop} (hl : x.length = n) (hn : n ≤ 100) (h1 : 0 ≤ i) (h2 : i < n)
    (h : Txt.item x i = Txt.item x i ∧ (Txt.item x i).length = 1 → Q (.str (Txt.item x i) s.toks) { s with toks := s.toks + 1 })
    (hs : subscripted slice false (.str x t) (.int i u) = operate [.str x t, .int i u] (getItem (.str x t) (.int i u)) := by with_unfolding_all rfl)
    (ht : ∀ r, letTemporaryGo value (.str x t) r = pure () := by intro _; with_unfolding_all rfl) :
    wpAny (model prog w) A (subscriptTail value slice (.str x t) (.int i u)) Q E s := by
  have hx : (x.length : Int) = n := by rw [hl]
  have hn' : (n : Int) ≤ 100 := by exact_mod_cast hn
  refine item_str (fitsSsize_of (N := 100) (by omega) (by omega) (by decide)) (by omega) (by omega) (fun h3 => h ⟨rfl, by omega⟩) hs ht
end
theorem lines_Rw2 : True := by
  k_with "subscriptTail Constant BinOp str int" => (k_here; (with_reducible show wpAny _ _ (subscriptTail _ _ (Value.str _ _) (Value.int _ _)) _ _ _); k_dflt (refine' itemN (by first | with_reducible assumption | exact rfl) (by decide) (by with_reducible assumption) (by with_reducible assumption) ?_); intro _; (try dsimp only))
  k_with "subscriptTail Subscript BinOp str int" => (k_here; (with_reducible show wpAny _ _ (subscriptTail _ _ (Value.str _ _) (Value.int _ _)) _ _ _); k_dflt (refine' itemN (by first | with_reducible assumption | exact rfl) (by decide) (by with_reducible assumption) (by with_reducible assumption) ?_); intro _; (try dsimp only))
  trivial

section
variable {prog : Program} {w : World} {A : Around} {E : Value → Shared → Prop} {s : Shared}
theorem strlen_app (x y : Str) : (x ++ y).length = x.length + y.length := by
  show (x.cps ++ y.cps).size = _
  rw [Array.size_append]; rfl
theorem addN {x y : Str} {t u : Tok} {Q : Value → Shared → Prop} (h1 : x.length ≤ 100) (h2 : y.length ≤ 100) (h : (x ++ y).length = x.length + y.length → ∀ t' tk, Q (.str (x ++ y) t') { s with toks := tk }) : wpAny (model prog w) A (binaryOp .Add (.str x t) (.str y u)) Q E s :=
  PyProof.Rows.add_str (h (strlen_app x y)) (by rw [sizeLine_eq]; omega)
theorem iaddN {x y : Str} {t u : Tok} {Q : Value → Shared → Prop} (h1 : x.length ≤ 100) (h2 : y.length ≤ 100) (h : (x ++ y).length = x.length + y.length → ∀ t' tk, Q (.str (x ++ y) t') { s with toks := tk }) : wpAny (model prog w) A (inplaceOp .Add (.str x t) (.str y u)) Q E s :=
  PyProof.Rows.iadd_str (h (strlen_app x y)) (by rw [sizeLine_eq]; omega)
end
theorem lines_Rw3 : True := by
  k_with "binaryOp Add str str" => (k_here; k_dflt (refine' addN (by k_extra "om") (by k_extra "om") ?_); intro _ _ _; (try dsimp only))
  k_with "inplaceOp Add str str" => (k_here; k_dflt (refine' iaddN (by k_extra "om") (by k_extra "om") ?_); intro _ _ _; (try dsimp only))
  trivial

theorem fm2 (a : Int) : 0 ≤ Int.fmod a 2 ∧ Int.fmod a 2 < 2 := ⟨Int.fmod_nonneg_of_pos _ (by decide), Int.fmod_lt_of_pos _ (by decide)⟩
theorem fm8 (a : Int) : 0 ≤ Int.fmod a 8 ∧ Int.fmod a 8 < 8 := ⟨Int.fmod_nonneg_of_pos _ (by decide), Int.fmod_lt_of_pos _ (by decide)⟩
theorem fd4 {a : Int} (h : 0 ≤ a ∧ a < 8) : 0 ≤ Int.fdiv a 4 ∧ Int.fdiv a 4 < 2 := by
  rw [Int.fdiv_eq_ediv_of_nonneg _ (by decide)]
  omega
theorem rowFacts (f g : Int) : (0 ≤ Int.fdiv (Int.fmod f 8) 4 ∧ Int.fdiv (Int.fmod f 8) 4 < (2 : Nat)) ∧ (0 ≤ Int.fmod (Int.fdiv (Int.fmod f 8) 2) 2 ∧ Int.fmod (Int.fdiv (Int.fmod f 8) 2) 2 < (2 : Nat)) ∧
    (0 ≤ Int.fmod (Int.fmod f 8) 2 + 2 * Int.fmod g 2 ∧ Int.fmod (Int.fmod f 8) 2 + 2 * Int.fmod g 2 < (4 : Nat)) := by
  have h1 := fd4 (fm8 f)
  have h2 := fm2 (Int.fdiv (Int.fmod f 8) 2)
  have h3 := fm2 (Int.fmod f 8)
  have h4 := fm2 g
  refine ⟨⟨h1.1, by exact_mod_cast h1.2⟩, ⟨h2.1, by exact_mod_cast h2.2⟩, by omega, by omega⟩
theorem lines_Rw4 : True := by
  k_with "execs cons" => (k_here; (with_reducible show wpAny _ _ _ _ _ (Shared.mk _ _ _ (_ + _) _)); refine toks_all ?_; intro tk; (try dsimp only))
  k_with "execs nil" => (k_here; (with_reducible show wpAny _ _ _ _ _ (Shared.mk _ _ _ (_ + _) _)); refine toks_all ?_; intro tk; (try dsimp only))
  trivial

theorem row_end {x : Int} {news : Led} {m₀ : Str → Option Value} {i : Nat} {X : Str} {t : Tok} {v r a b c u1 u2 u3 : Option Value} (hX : X = rowP x (i + 1)) (hl : X.length = 1 + 3 * (i + 1)) :
    JRw x news m₀ (i + 1) (fun y => if y = Str.ofString "row" then some (.str X t) else if y = Str.ofString "row" then v else if y = Str.ofString "above" then a else if y = Str.ofString "figure" then b else if y = Str.ofString "place" then c else
      if y = Str.ofString "row" then r else if y = Str.ofString "above" then u1 else if y = Str.ofString "figure" then u2 else if y = Str.ofString "place" then u3 else m₀ y) news := by
  subst hX
  refine ⟨rfl, hl, t, a, b, c, ?_⟩
  funext y
  by_cases h1 : y = Str.ofString "row"
  · simp only [if_pos h1]
  · by_cases h2 : y = Str.ofString "above"
    · simp only [if_neg h1, if_pos h2]
    · by_cases h3 : y = Str.ofString "figure"
      · simp only [if_neg h1, if_neg h2, if_pos h3]
      · by_cases h4 : y = Str.ofString "place"
        · simp only [if_neg h1, if_neg h2, if_neg h3, if_pos h4]
        · simp only [if_neg h1, if_neg h2, if_neg h3, if_neg h4]
section
variable {prog : Program} {w : World} {A : Around} {E : Value → Shared → Prop} {s : Shared} {h₀ : Heap} {L l : Addr} {news : Led} {value slice : PySem.Expr} {u : Tok} {n : Nat} {Q : Value → Shared → Prop}
theorem last_len {i : Nat} : (lastI i).length = 4 := by
  unfold lastI
  split <;> rfl
theorem itemLast {i : Nat} {t1 t2 t3 : Tok} (N : News h₀ L s.heap news) (hm : (l, listOf #[.str (Str.ofString "-xSs") t1, .str (Str.ofString "-xSs") t2, .str (Str.ofString "-xTt") t3] n) ∈ news) (hi : i < 3) (h : ∀ t', Q (.str (lastI i) t') s)
    (hs : subscripted slice false (.ref l) (.int i u) = operate [.ref l, .int i u] (getItem (.ref l) (.int i u)) := by with_unfolding_all rfl) : wpAny (model prog w) A (subscriptTail value slice (.ref l) (.int i u)) Q E s := by
  refine KTb.item_list (vs := [.str _ t1, .str _ t2, .str _ t3]) (ws := [Str.ofString "-xSs", Str.ofString "-xSs", Str.ofString "-xTt"]) (News.isList N hm) (.cons _ _ (.cons _ _ (.cons _ _ .nil))) (by omega) (by simp; omega) (by omega) (fun t' _ => ?_) hs
  have hi3 : i = 0 ∨ i = 1 ∨ i = 2 := by omega
  rcases hi3 with rfl | rfl | rfl <;> exact h t'
theorem pw8 {i : Nat} (hi : i < 3) : (8 : Int) ^ (2 - (i : Int)).toNat ≠ 0 ∧ ((8 : Int) ^ (2 - (i : Int)).toNat).natAbs.log2 < 9000 ∧ (2 : Int) ^ (2 - (i : Int)).toNat ≠ 0 ∧ ((2 : Int) ^ (2 - (i : Int)).toNat).natAbs.log2 < 9000 := by
  have hi3 : i = 0 ∨ i = 1 ∨ i = 2 := by omega
  rcases hi3 with rfl | rfl | rfl <;> decide
end
theorem lines_Rw5 : True := by
  k_with "binaryOp Pow int int" => (k_here; (with_reducible refine pow_int_small (by k_extra "om") (by k_extra "om") (by decide) ?_))
  k_with "binaryOp FloorDiv int int" => (k_here; (with_reducible refine floordiv_int (by with_reducible assumption) ?_ (Or.inl (PyProof.noPylong_of_log2 (by with_reducible assumption)))))
  k_with "subscriptTail List cons Name ref int" => (k_here; (with_reducible show wpAny _ _ (subscriptTail _ _ (Value.ref _) (Value.int _ _)) _ _ _); k_dflt (refine' itemLast (by k_asm) (by k_mem) (by with_reducible assumption) ?_); intro _; (try dsimp only))
  trivial

noncomputable def MidRw (x : Int) (h₀ : Heap) (L : Addr) (m : Str → Option Value) (news : Led) (s : Shared) (f : Flow) (s' : Shared) : Prop :=
  f = .next ∧ ∃ h tk t, s' = { s with heap := h, toks := tk } ∧ Fr h₀ L h (fun y => if y = Str.ofString "row" then some (.str (rowP x 0) t) else m y) ∧ News h₀ L h news
section
variable {M : Model} {A : Around} {E : Value → Shared → Prop} {s : Shared} {h₀ : Heap} {L : Addr} {news : Led} {m : Str → Option Value} {env : Env} {st : Stmt} {rest : List Stmt} {Q : Flow → Shared → Prop}
theorem cut_row (x : Int) (F : Fr h₀ L s.heap m) (N : News h₀ L s.heap news)
    (h1 : wpAny M A (exec st env) (MidRw x h₀ L m news s) E s)
    (h2 : ∀ h tk t, Fr h₀ L h (fun y => if y = Str.ofString "row" then some (.str (rowP x 0) t) else m y) → News h₀ L h news → wpAny M A (execs rest env) Q E { s with heap := h, toks := tk }) :
    wpAny M A (execs (st :: rest) env) Q E s :=
  wpAny_execs_cons (wpAny_mono h1 (by rintro f s' ⟨rfl, h, tk, t, rfl, F', N'⟩; exact h2 h tk t F' N') (fun _ _ e => e))
end
set_option pp.maxSteps 3000 in
theorem law_row_c (w : World) (mean : ExcName → Option Value) (mg mb : Str → Option Value) (x : Int) (t : Tok) (news : Led) (h0 : 0 ≤ x) (h1 : x < 65536) :
    Tell w mean mg mb 3 40 327 [.int x t] news (fun v n' => n' = news ∧ ∃ t, v = .str (rowP x 3) t) := by
  unfold Tell
  k_fill
  intro dp un gd cn cs a ccd cl outer A₀ base h₀ L m
  intro s Q E B F X N T hk hdp hun hret
  refine wpAny_call ?_
  k_dflt ktr_enter
  refine wpAny_noRaise ?_
  rename Fr h₀ _ _ _ => FG0
  rename Fr _ _ _ _ => F90
  have F91 := fr_map F90 (look_one (Str.ofString "mode") (.int x t))
  clear F90
  rename News _ _ _ _ => N90
  k_dflt (refine cut_row x F91 N90 ?fst ?rst)
  case fst =>
    cases hz : (Int.fdiv x 4096 == 2) <;> k_steps
    all_goals rename Fr _ _ _ _ => F2
    all_goals rename News _ _ _ _ => N2
    · exact ⟨rfl, _, _, _, rfl, by rw [show rowP x 0 = Str.ofString "-" by unfold rowP; rw [hz]; rfl]; exact F2, N2⟩
    · exact ⟨rfl, _, _, _, rfl, by rw [show rowP x 0 = Str.ofString "c" by unfold rowP; rw [hz]; rfl]; exact F2, N2⟩
  case rst =>
    intro h9 tk9 t9 F92 N92
    clear F91 N90
    dsimp only
    k_steps
    refine Held.of ?_
    rename Fr _ _ _ _ => F2
    rename News _ _ _ _ => N2
    rename IsRange _ _ _ _ _ _ _ _ => R2
    k_dflt (refine iterRw (x := x) rfl rfl F2 N2 R2 ?turn1 ?done1)
    case turn1 =>
      intro J hJ i v m₁ news₁ h tk I io hi hp911 hJi hne F₁ N₁
      refine Classical.byContradiction fun hn9 => ?_
      obtain ⟨ti, hv⟩ := hp911
      refine hn9 ?_
      clear hn9
      rw [hJ] at hJi
      refine Classical.byContradiction fun hn9 => ?_
      obtain ⟨rfl, hlen, tr, u1, u2, u3, rfl⟩ := hJi
      refine hn9 ?_
      clear hn9
      clear F2 N2
      subst hv
      refine Classical.byContradiction fun hn9 => ?_
      obtain ⟨p1, p2, p3, p4⟩ := pw8 hi
      refine hn9 ?_
      clear hn9
      refine Classical.byContradiction fun hn9 => ?_
      obtain ⟨⟨q1, q2⟩, ⟨q3, q4⟩, q5, q6⟩ := rowFacts (Int.fdiv x (8 ^ (2 - (i : Int)).toNat)) (Int.fdiv (Int.fdiv x 512) (2 ^ (2 - (i : Int)).toNat))
      refine hn9 ?_
      clear hn9
      have hll := last_len (i := i)
      k_steps
      rename Fr _ _ _ _ => F8
      rename News _ _ _ _ => N8
      rw [hJ]
      refine TurnEnd.fin (.inl rfl) F8 (cb_drop N8 (fun q hq => .tail _ hq)) hne (row_end ?_ ?_)
      · rfl
      · omega
    case done1 =>
      intro m₁ news₁ h tk hp94 F₁ N₁
      refine Classical.byContradiction fun hn9 => ?_
      obtain ⟨rfl, hlen, tr, u1, u2, u3, rfl⟩ := hp94
      refine hn9 ?_
      clear hn9
      clear F2 N2
      dsimp only
      k_steps
      all_goals exact hret _ _ _ _ ⟨rfl, _, rfl⟩ (by k_asm) (cb_drop (by assumption) (by kcj_all))
end Mine
-- RnJ
open PySem PySem.W PySem.Calls PyProof.Rows
namespace Mine

theorem midP {X : Led} {p : Addr × Obj} {l : Led} : (X ++ p :: l).Perm (p :: (X ++ l)) := List.perm_middle
/-- the sorter's ledger: some entries ahead, the list of the ready ones, the sorter -/
theorem gl_a {w : World} {S : Srt} {X tl : Led} {p : Addr × Obj} : (S.led w (p :: (X ++ tl))).Perm (X ++ p :: S.led w tl) := by
  have h1 := led_tl w S (p :: X) tl
  exact h1.trans midP.symm
theorem gl_d {w : World} {S : Srt} {X tl : Led} {p : Addr × Obj} : (p :: S.led w (X ++ tl)).Perm (X ++ p :: S.led w tl) :=
  (List.Perm.cons p (led_tl w S X tl)).trans midP.symm
theorem gl_r {w : World} {S : Srt} {X tl : Led} {p q : Addr × Obj} : (q :: S.led w (p :: (X ++ tl))).Perm (X ++ p :: S.led w (q :: tl)) := by
  have h1 : (q :: S.led w (p :: (X ++ tl))).Perm (q :: (X ++ p :: S.led w tl)) := .cons q gl_a
  have h2 : (q :: (X ++ p :: S.led w tl)).Perm (X ++ p :: q :: S.led w tl) := by
    have a1 : (X ++ p :: q :: S.led w tl).Perm (q :: p :: (X ++ S.led w tl)) := (midP (X := X) (p := p)).trans ((List.Perm.cons p midP).trans (.swap q p _))
    exact (List.Perm.cons q midP).trans a1.symm
  have h3 : (X ++ p :: q :: S.led w tl).Perm (X ++ p :: S.led w (q :: tl)) := List.Perm.append_left X (.cons p (led_tl w S [q] tl).symm)
  exact h1.trans (h2.trans h3)
theorem gl_t {w : World} {S : Srt} {X tl : Led} {p t : Addr × Obj} : (t :: (X ++ p :: S.led w tl)).Perm (X ++ p :: S.led w (t :: tl)) :=
  (midP (X := X) (p := t) (l := p :: S.led w tl)).symm.trans (List.Perm.append_left X ((List.Perm.swap p t _).trans (.cons p (led_tl w S [t] tl).symm)))
theorem done_step (w : World) (mean : ExcName → Option Value) (mg mb : Str → Option Value) (X : Led) (self sd d D : Addr) (k1 k2 k3 k4 : Tok) (npo : Value) (z : Int) (t4 : Tok) (od : Obj) (infos : List Info) (rs : List (Str × Tok)) (c : Nat) (tl : Led) (x : Str) (tx : Tok) (Eg : List (Str × Str)) (names fin out : List Str)
    (hS : Srt.Ok w ⟨self, sd, d, k1, k2, k3, k4, .ref D, npo, .int z t4, od, infos⟩) (hN : ND (X ++ (D, W.listOf (strValues rs).toArray c) :: Srt.led w ⟨self, sd, d, k1, k2, k3, k4, .ref D, npo, .int z t4, od, infos⟩ tl)) (hz : 0 ≤ z ∧ z ≤ 1000)
    (hK : KI Eg names fin (x :: out) (rs.map (·.1)) [] (npL infos)) (hss : ∀ y, ssL infos y = ssE Eg y) (hnm : nmL infos = names) (hE : ∀ e ∈ Eg, e.1 ∈ names) (hln : names.length ≤ 900) (hsl : ∀ i ∈ infos, i.ss.length ≤ 900) :
    Tell w mean mg mb 3 24 235 [.ref self, .str x tx] (X ++ (D, W.listOf (strValues rs).toArray c) :: Srt.led w ⟨self, sd, d, k1, k2, k3, k4, .ref D, npo, .int z t4, od, infos⟩ tl)
      (fun v n' => v = .none ∧ ∃ l' rs' c' t', n' = X ++ (D, W.listOf (strValues rs').toArray c') :: Srt.led w ⟨self, sd, d, k1, k2, k3, k4, .ref D, npo, .int (z + 1) t', od, l'⟩ tl ∧ ND n' ∧ SameG infos l' ∧ (∀ j ∈ l', j.ss.length ≤ 900) ∧
        KI Eg names (fin ++ [x]) out (rs'.map (·.1)) [] (npL l')) := by
  have C := done_c w mean mg mb self sd d D k1 k2 k3 k4 npo z t4 od infos rs c (X ++ tl) x tx Eg names fin out hS (ND.perm hN gl_d.symm) hz hK hss hnm hE hln hsl
  refine (C.sub (fun q hq => gl_d.subset hq)).weaken ?_
  intro v n hp92
  refine Classical.byContradiction fun hn9 => ?_
  obtain ⟨l', rs', c', t', rfl, rfl, hnd, hG, hsl', hK'⟩ := hp92
  refine hn9 ?_
  clear hn9
  exact ⟨_, ⟨rfl, l', rs', c', t', rfl, ND.perm hnd gl_d, hG, hsl', hK'⟩, fun q hq => gl_d.symm.subset hq⟩
theorem act_step (w : World) (mean : ExcName → Option Value) (mg mb : Str → Option Value) (X : Led) (self sd d D : Addr) (k1 k2 k3 k4 : Tok) (z : Int) (ta tb : Tok) (od : Obj) (infos : List Info) (rs : List (Str × Tok)) (c : Nat) (tl : Led) (hrs : rs.length ≤ 900) (ha : 0 ≤ z ∧ z ≤ 1000) :
    Tell w mean mg mb 3 24 221 [.ref self] (X ++ (D, W.listOf (strValues rs).toArray c) :: Srt.led w ⟨self, sd, d, k1, k2, k3, k4, .ref D, .int z ta, .int z tb, od, infos⟩ tl)
      (fun v n' => v = .bool (!rs.isEmpty) ∧ n' = X ++ (D, W.listOf (strValues rs).toArray c) :: Srt.led w ⟨self, sd, d, k1, k2, k3, k4, .ref D, .int z ta, .int z tb, od, infos⟩ tl) := by
  have C := is_active_c w mean mg mb self sd d D k1 k2 k3 k4 z ta tb od infos rs c (X ++ tl) hrs ha
  refine (C.sub (fun q hq => gl_a.subset hq)).weaken ?_
  intro v n hp92
  refine Classical.byContradiction fun hn9 => ?_
  obtain ⟨rfl, rfl⟩ := hp92
  refine hn9 ?_
  clear hn9
  exact ⟨_, ⟨rfl, rfl⟩, fun q hq => gl_a.symm.subset hq⟩
theorem get_step (w : World) (mean : ExcName → Option Value) (mg mb : Str → Option Value) (X : Led) (self sd d D : Addr) (k1 k2 k3 k4 : Tok) (z : Int) (ta tb : Tok) (od : Obj) (infos : List Info) (rs : List (Str × Tok)) (c : Nat) (tl : Led) (hrs : rs.length ≤ 900) (hr0 : rs ≠ []) (ha : 0 ≤ z ∧ z ≤ 1000)
    (hS : Srt.Ok w ⟨self, sd, d, k1, k2, k3, k4, .ref D, .int z ta, .int z tb, od, infos⟩) (hN : ND (X ++ (D, W.listOf (strValues rs).toArray c) :: Srt.led w ⟨self, sd, d, k1, k2, k3, k4, .ref D, .int z ta, .int z tb, od, infos⟩ tl))
    (hsub : ∀ y ∈ rs.map (·.1), y ∈ nmL infos) (hsl : ∀ i ∈ infos, i.ss.length ≤ 900) :
    Tell w mean mg mb 3 24 214 [.ref self] (X ++ (D, W.listOf (strValues rs).toArray c) :: Srt.led w ⟨self, sd, d, k1, k2, k3, k4, .ref D, .int z ta, .int z tb, od, infos⟩ tl)
      (fun v n' => ∃ R l' t c', v = .ref R ∧ n' = X ++ (D, W.listOf #[] c') :: Srt.led w ⟨self, sd, d, k1, k2, k3, k4, .ref D, .int (z + rs.length) t, .int z tb, od, l'⟩ ((R, { cls := .type "tuple", data := .seq (strValues rs).toArray }) :: tl) ∧
        ND n' ∧ SameG infos l' ∧ (∀ j ∈ l', j.ss.length ≤ 900) ∧ ∀ y, npL l' y = if y ∈ rs.map (·.1) then -1 else npL infos y) := by
  have C := get_ready_c w mean mg mb self sd d D k1 k2 k3 k4 z ta tb od infos rs c (X ++ tl) hrs hr0 ha hS (ND.perm hN gl_a.symm) hsub hsl
  refine (C.sub (fun q hq => gl_a.subset hq)).weaken ?_
  intro v n hp92
  refine Classical.byContradiction fun hn9 => ?_
  obtain ⟨R, l', t, c', rfl, rfl, hnd, hG, hsl', hnp⟩ := hp92
  refine hn9 ?_
  clear hn9
  exact ⟨_, ⟨R, l', t, c', rfl, rfl, ND.perm hnd gl_r, hG, hsl', hnp⟩, fun q hq => gl_r.symm.subset hq⟩
theorem news_dup {h₀ h : Heap} {L : Addr} {n : Led} {p : Addr × Obj} (N : News h₀ L h n) (hp : p ∈ n) : News h₀ L h (p :: n) := cb_drop N fun q hq => by
  rcases List.mem_cons.mp hq with rfl | hq
  · exact hp
  · exact hq
noncomputable def rowF (x : Int) : Str := Txt.join (Str.ofString "") (fmL x)
/-- an entry of the dict ends -/
structure EN where
  y : Str
  a : Addr
  e : Str × Str
  t1 : Tok
  t2 : Tok
noncomputable def EN.kv (n : EN) : Str × Value := (n.y, .ref n.a)
noncomputable def EN.obj (n : EN) : Addr × Obj := (n.a, { cls := .type "tuple", data := .seq #[.str n.e.1 n.t1, .str n.e.2 n.t2] })
structure EnsOk (fs : List Fil) (ens : List EN) (fin : List Str) (tl : Led) : Prop where
  keys : ens.map (·.y) = fin
  obj : ∀ n ∈ ens, n.obj ∈ tl
  ends : ∀ n ∈ ens, Ends rowF fs n.y n.e
theorem EnsOk.more {fs : List Fil} {ens : List EN} {fin : List Str} {tl tl' : Led} (h : EnsOk fs ens fin tl) (hs : ∀ p ∈ tl, p ∈ tl') : EnsOk fs ens fin tl' := ⟨h.keys, fun n hn => hs _ (h.obj n hn), h.ends⟩
theorem EnsOk.snoc {fs : List Fil} {ens : List EN} {fin : List Str} {tl : Led} {n : EN} (h : EnsOk fs ens fin tl) (ho : n.obj ∈ tl) (he : Ends rowF fs n.y n.e) : EnsOk fs (ens ++ [n]) (fin ++ [n.y]) tl := by
  refine ⟨by rw [List.map_append, h.keys]; rfl, fun k hk => ?_, fun k hk => ?_⟩
  · rcases List.mem_append.mp hk with hk | hk
    · exact h.obj k hk
    · rw [List.mem_singleton.mp hk]; exact ho
  · rcases List.mem_append.mp hk with hk | hk
    · exact h.ends k hk
    · rw [List.mem_singleton.mp hk]; exact he
theorem ens_keys (ens : List EN) : (ens.map EN.kv).map (·.1) = ens.map (·.y) := by rw [List.map_map]; rfl
theorem ens_off {fs : List Fil} {ens : List EN} {fin : List Str} {tl : Led} (h : EnsOk fs ens fin tl) {y : Str} (hy : y ∉ fin) : valueAt (ens.map EN.kv) y = none := by
  cases q : valueAt (ens.map EN.kv) y with
  | none => rfl
  | some v =>
    refine absurd ?_ hy
    rw [← h.keys, ← ens_keys]
    exact List.mem_map_of_mem (valueAt_mem q)
theorem ens_on {fs : List Fil} {ens : List EN} {fin : List Str} {tl : Led} (h : EnsOk fs ens fin tl) (hn : fin.Nodup) {y : Str} (hy : y ∈ fin) : ∃ n ∈ ens, n.y = y ∧ valueAt (ens.map EN.kv) y = some (.ref n.a) := by
  rw [← h.keys] at hy hn
  refine Classical.byContradiction fun hn9 => ?_
  obtain ⟨n, hm, rfl⟩ := List.mem_map.mp hy
  refine hn9 ?_
  clear hn9
  refine ⟨n, hm, rfl, ?_⟩
  refine valueAt_of_mem (by rw [ens_keys]; exact hn) (List.mem_map.mpr ⟨n, hm, rfl⟩)
section
variable (w : World) (fs : List Fil) (Eg : List (Str × Str)) (self sd d D : Addr) (k1 k2 k3 k4 : Tok) (od : Obj) (infos : List Info) (dE : Addr) (p1 p2 : Addr × Obj) (rest : Led)
/-- the while loop's invariant -/
inductive JWh (m₀ : Str → Option Value) (n : Nat) (m : Str → Option Value) (nw : Led) : Prop
  | mk (fin : _)
    (rs : _)
    (c : _)
    (l : _)
    (z : _)
    (ta : _)
    (tb : _)
    (oE : _)
    (ens : _)
    (tl : _)
    (u : _)
    (hz0 : KI Eg (namesOf Eg) fin [] (rs.map (·.1)) [] (npL l))
    (hz1 : SameG infos l)
    (hz2 : (∀ j ∈ l, j.ss.length ≤ 900))
    (hz3 : n = (namesOf Eg).length - fin.length)
    (hz4 : z = (fin.length : Int))
    (hz5 : oE.IsDictOf (strKind PySem.Challenge.rw_pd0160_01.row.prog w) (ens.map EN.kv))
    (hz6 : EnsOk fs ens fin tl)
    (hz7 : (∀ p ∈ rest, p ∈ tl))
    (hz8 : m = (fun y => if y = Str.ofString "path" then u else m₀ y))
    (hz9 : nw = (dE, oE) :: p1 :: p2 :: (D, W.listOf (strValues rs).toArray c) :: Srt.led w ⟨self, sd, d, k1, k2, k3, k4, .ref D, .int z ta, .int z tb, od, l⟩ tl)
    (hz10 : ND nw)
/-- the loop over those that get_ready hands out -/
inductive JIn (R : Addr) (rs : List (Str × Tok)) (z : Int) (ta : Tok) (fin : List Str) (m₀ : Str → Option Value) (i : Nat) (m : Str → Option Value) (nw : Led) : Prop
  | mk (rs2 : _)
    (c : _)
    (l : _)
    (zi : _)
    (tb : _)
    (oE : _)
    (ens : _)
    (tl : _)
    (u : _)
    (hz0 : zi = z + (i : Int))
    (hz1 : KI Eg (namesOf Eg) (fin ++ (rs.map (·.1)).take i) ((rs.map (·.1)).drop i) (rs2.map (·.1)) [] (npL l))
    (hz2 : SameG infos l)
    (hz3 : (∀ j ∈ l, j.ss.length ≤ 900))
    (hz4 : oE.IsDictOf (strKind PySem.Challenge.rw_pd0160_01.row.prog w) (ens.map EN.kv))
    (hz5 : EnsOk fs ens (fin ++ (rs.map (·.1)).take i) tl)
    (hz6 : (∀ p ∈ rest, p ∈ tl))
    (hz7 : (R, { cls := .type "tuple", data := .seq (strValues rs).toArray }) ∈ tl)
    (hz8 : m = (fun y => if y = Str.ofString "path" then u else m₀ y))
    (hz9 : nw = (dE, oE) :: p1 :: p2 :: (D, W.listOf (strValues rs2).toArray c) :: Srt.led w ⟨self, sd, d, k1, k2, k3, k4, .ref D, .int (z + rs.length) ta, .int zi tb, od, l⟩ tl)
    (hz10 : ND nw)
end
theorem leads_plain {l : List (Str × Value)} {fs : List Fil} (hn : (fs.map (·.name)).Nodup) (h : LeadsAre l fs) {f : Fil} (hf : f ∈ fs) (hg : f.goal = sE) : valueAt l f.name = none := by
  cases q : valueAt l f.name with
  | none => rfl
  | some v =>
    refine Classical.byContradiction fun hn9 => ?_
    obtain ⟨g, hgm, e, hne, _⟩ := leads_sub h _ (valueAt_mem q)
    refine hn9 ?_
    clear hn9
    have := fil_eq hn hf hgm e
    subst this
    exact absurd hg hne
theorem leads_at {w : World} {ol : Obj} {l : List (Str × Value)} {fs : List Fil} (hd : ol.IsDictOf (strKind PySem.Challenge.rw_pd0160_01.row.prog w) l) (h : LeadsAre l fs) {f : Fil} (hf : f ∈ fs) (hg : f.goal ≠ sE) : ∃ t, valueAt l f.name = some (.str f.goal t) := by
  refine Classical.byContradiction fun hn9 => ?_
  obtain ⟨t, ht⟩ := leads_has h f hf hg
  refine hn9 ?_
  clear hn9
  refine Classical.byContradiction fun hn9 => ?_
  obtain ⟨_, _, _, _, _, _, hn⟩ := hd
  refine hn9 ?_
  clear hn9
  exact ⟨t, valueAt_of_mem hn ht⟩
theorem fi_of {fis : List FI} {f : Fil} (h : f ∈ filsOf fis) : ∃ fi ∈ fis, fi.f = f := List.mem_map.mp h
theorem fi_none {fis : List FI} {y : Str} (h : ¬ ∃ f ∈ filsOf fis, f.name = y) : valueAt (fis.map FI.kv) y = none := by
  cases q : valueAt (fis.map FI.kv) y with
  | none => rfl
  | some v =>
    refine Classical.byContradiction fun hn9 => ?_
    obtain ⟨fi, hfi, e⟩ := List.mem_map.mp (valueAt_mem q)
    refine hn9 ?_
    clear hn9
    exact absurd ⟨fi.f, List.mem_map_of_mem hfi, (Prod.mk.inj e).1⟩ h
theorem le_line {n : Nat} (h : n ≤ 100) : n ≤ sizeLine := by rw [sizeLine_eq]; omega
inductive TkOn : Prop
  | mk
section
variable {prog : Program} {w : World} {A : Around} {E : Value → Shared → Prop} {s : Shared} {h₀ : Heap} {L : Addr} {m : Str → Option Value} {news : Led}
theorem in_yes {d : Addr} {o : Obj} {kvs : List (Str × Value)} {x : Str} {t : Tok} {v : Value} {Q : Value → Shared → Prop} (N : News h₀ L s.heap news) (hp : (d, o) ∈ news) (hd : o.IsDictOf (PySem.strKind prog w) kvs) (lo : (d == sysModules) = false) (hv : valueAt kvs x = some v)
    (h : Q (.bool true) { s with toks := s.toks + 1 }) : wpAny (model prog w) A (compareOp .In (.str x t) (.ref d)) Q E s := kda_in N hp hd lo (strKind_is _ _ _ _) true (by rw [hv]; rfl) h
theorem in_no {d : Addr} {o : Obj} {kvs : List (Str × Value)} {x : Str} {t : Tok} {Q : Value → Shared → Prop} (N : News h₀ L s.heap news) (hp : (d, o) ∈ news) (hd : o.IsDictOf (PySem.strKind prog w) kvs) (lo : (d == sysModules) = false) (hv : valueAt kvs x = none)
    (h : Q (.bool false) { s with toks := s.toks + 1 }) : wpAny (model prog w) A (compareOp .In (.str x t) (.ref d)) Q E s := kda_in N hp hd lo (strKind_is _ _ _ _) false (by rw [hv]; rfl) h
theorem str_of {prog : Program} {w : World} {k : Str} {v : Value} (h : (PySem.strKind prog w).is k v = true) : ∃ t, v = .str k t := by
  have : v.isStrOf k = true := h
  cases v <;> simp [Value.isStrOf] at this
  exact ⟨_, by rw [this]⟩
theorem pack0 {w : World} {S : Srt} {I dE : Addr} {io oE o' : Obj} {p1 p2 p : Addr × Obj} {tl : Led} {g h : Heap} {L : Addr} {ens : List EN} (n : EN) (N : News g L h ((I, io) :: (dE, o') :: p1 :: p2 :: p :: S.led w tl)) (hnd : ND ((I, io) :: (dE, oE) :: p1 :: p2 :: p :: S.led w tl))
    (hd : o'.IsDictOf (strKind PySem.Challenge.rw_pd0160_01.row.prog w) (stored (ens.map EN.kv) n.y (.ref n.a))) (hy : valueAt (ens.map EN.kv) n.y = none) :
    News g L h ([(I, io), (dE, o'), p1, p2] ++ p :: S.led w tl) ∧ ND ([(I, io), (dE, o'), p1, p2] ++ p :: S.led w tl) ∧ o'.IsDictOf (strKind PySem.Challenge.rw_pd0160_01.row.prog w) ((ens ++ [n]).map EN.kv) := by
  rw [stored_new hy] at hd
  exact ⟨N, nd_keys hnd rfl, by rw [List.map_append]; exact hd⟩
theorem pack1 {w : World} {S : Srt} {I dE T : Addr} {io oE o' : Obj} {x p1 p2 p : Addr × Obj} {tl : Led} {g h : Heap} {L : Addr} {ens : List EN} {y a b : Str} {t1 t2 : Tok} (N : News g L h ((T, { cls := .type "tuple", data := .seq #[.str a t1, .str b t2] }) :: x :: (I, io) :: (dE, o') :: p1 :: p2 :: p :: S.led w tl))
    (hnd : ND ((I, io) :: (dE, oE) :: p1 :: p2 :: p :: S.led w tl)) (lt : ∀ q ∈ (I, io) :: (dE, oE) :: p1 :: p2 :: p :: S.led w tl, q.1 < T)
    (hd : o'.IsDictOf (strKind PySem.Challenge.rw_pd0160_01.row.prog w) (stored (ens.map EN.kv) y (.ref T))) (hy : valueAt (ens.map EN.kv) y = none) :
    ∃ n : EN, n.y = y ∧ n.e = (a, b) ∧ News g L h ([(I, io), (dE, o'), p1, p2] ++ p :: S.led w (n.obj :: tl)) ∧ ND ([(I, io), (dE, o'), p1, p2] ++ p :: S.led w (n.obj :: tl)) ∧ o'.IsDictOf (strKind PySem.Challenge.rw_pd0160_01.row.prog w) ((ens ++ [n]).map EN.kv) := by
  have hp := gl_t (w := w) (S := S) (X := [(I, io), (dE, o'), p1, p2]) (tl := tl) (p := p) (t := (T, { cls := .type "tuple", data := .seq #[.str a t1, .str b t2] }))
  rw [stored_new hy] at hd
  have h1 : ND ((T, { cls := .type "tuple", data := .seq #[.str a t1, .str b t2] }) :: ([(I, io), (dE, o'), p1, p2] ++ p :: S.led w tl)) := nd_keys ((nd_cons (p := (T, { cls := .type "tuple", data := .seq #[.str a t1, .str b t2] }))).mpr ⟨fun q hq => Nat.ne_of_lt (lt q hq), hnd⟩) rfl
  refine ⟨⟨y, T, (a, b), t1, t2⟩, rfl, rfl, cb_drop N fun q hq => ?_, ND.perm h1 hp, by rw [List.map_append]; exact hd⟩
  rcases List.mem_cons.mp (hp.symm.subset hq) with rfl | hq
  · exact .head _
  · exact .tail _ (.tail _ hq)
theorem news_skip {g h : Heap} {L : Addr} {a b c : Addr × Obj} {l : Led} (N : News g L h (a :: b :: c :: l)) : News g L h (a :: b :: l) := cb_drop N fun q hq => by
  rcases List.mem_cons.mp hq with rfl | hq
  · exact .head _
  · rcases List.mem_cons.mp hq with rfl | hq
    · exact .tail _ (.head _)
    · exact .tail _ (.tail _ (.tail _ hq))
theorem While_N {env : Env} {test : PySem.Expr} {body orelse : List Stmt} {pos : Pos} {Q : Flow → Shared → Prop} (Jm : (Str → Option Value) → Nat → (Str → Option Value) → Led → Prop) (n₀ : Nat)
    (F : Fr h₀ L s.heap m) (N : News h₀ L s.heap news) (hJ : Jm m n₀ m news)
    (turn : ∀ n m₁ news₁ h₁ tk₁, Fr h₀ L h₁ m₁ → News h₀ L h₁ news₁ → Jm m n m₁ news₁ →
      wpAny (model prog w) A (isTrue test env (eval test env)) (fun b s₂ =>
        if b = true then wpAny (model prog w) A (execs body env) (WhileStep2 h₀ L s (Jm m) Q n) E s₂ else wpAny (model prog w) A (execs orelse env) Q E s₂) E { s with heap := h₁, toks := tk₁ })
    (hE : PassesOwn (model prog w) A env E := by passes_own) :
    wpAny (model prog w) A (exec (.While test body orelse pos) env) Q E s := While_els (Jm m) F N hJ turn hE
end
end Mine
-- Sp
open PySem PySem.W PySem.Calls PyProof.Rows
namespace Mine

noncomputable def pairD (p : Str × Str × Str) : Dat := .tuple [.str p.1, .tuple [.str p.2.1, .str p.2.2]]
noncomputable def resD (rb : Bool) (l : List (Str × Str × Str)) : Dat := .tuple [.bool rb, .list (l.map pairD)]
/-- what both sides give back -/
structure Spec (fs : List Fil) (rb : Bool) (l : List (Str × Str × Str)) : Prop where
  ring : rb = true ↔ ∃ f ∈ fs, Bad rowF fs f.name
  sorted : l.Pairwise fun a b => sLt a.1 b.1
  mem : ∀ y e, (y, e) ∈ l ↔ Node fs y ∧ Ends rowF fs y e
theorem sorted_eq : ∀ {l l' : List (Str × Str × Str)}, l.Pairwise (fun a b => sLt a.1 b.1) → l'.Pairwise (fun a b => sLt a.1 b.1) → (∀ x, x ∈ l ↔ x ∈ l') → l = l'
  | [], [], _, _, _ => rfl
  | [], b :: r, _, _, h => nomatch (h b).mpr (.head _)
  | a :: r, [], _, _, h => nomatch (h a).mp (.head _)
  | a :: r, b :: r', h1, h2, h => by
    rw [List.pairwise_cons] at h1 h2
    have e : a = b := by
      rcases List.mem_cons.mp ((h a).mp (.head _)) with e | ha
      · exact e
      · rcases List.mem_cons.mp ((h b).mpr (.head _)) with e | hb
        · exact e.symm
        · exact absurd (sLt_trans (h1.1 b hb) (h2.1 a ha)) (sLt_irrefl _)
    subst e
    congr 1
    refine sorted_eq h1.2 h2.2 fun x => ⟨fun hx => ?_, fun hx => ?_⟩
    · rcases List.mem_cons.mp ((h x).mp (.tail _ hx)) with e | hx'
      · exact absurd (e ▸ h1.1 x hx) (sLt_irrefl _)
      · exact hx'
    · rcases List.mem_cons.mp ((h x).mpr (.tail _ hx)) with e | hx'
      · exact absurd (e ▸ h2.1 x hx) (sLt_irrefl _)
      · exact hx'
theorem spec_eq {fs : List Fil} {rb rb' : Bool} {l l' : List (Str × Str × Str)} (h : Spec fs rb l) (h' : Spec fs rb' l') : rb = rb' ∧ l = l' := by
  refine ⟨Bool.eq_iff_iff.mpr (h.ring.trans h'.ring.symm), sorted_eq h.sorted h'.sorted fun x => ?_⟩
  obtain ⟨y, e⟩ := x
  exact (h.mem y e).trans (h'.mem y e).symm
theorem pick {ens : List EN} {nw : Led} : ∀ qs : List PE, (∀ q ∈ qs, q.obj ∈ nw ∧ ∃ n ∈ ens, n.y = q.key ∧ n.a = q.v ∧ n.obj ∈ nw) → ∃ l : List (Str × Str × Str), DatAll nw (qs.map PE.ref) (l.map pairD) ∧ l.map (·.1) = qs.map (·.key) ∧ ∀ p ∈ l, ∃ n ∈ ens, n.y = p.1 ∧ n.e = p.2
  | [], _ => ⟨[], .nil, rfl, by simp⟩
  | q :: r, h => by
    obtain ⟨hq, n, hn, e1, e2, ho⟩ := h q (.head _)
    obtain ⟨l, h1, h2, h3⟩ := pick r fun q hq => h q (.tail _ hq)
    refine ⟨(q.key, n.e) :: l, .cons ?_ h1, by simp [h2], ?_⟩
    · refine DatIn.tuple (vs := [.str q.key q.tk, .ref q.v]) hq (.cons (.str _ _) (.cons ?_ .nil))
      rw [← e2]
      exact DatIn.tuple (vs := [.str n.e.1 n.t1, .str n.e.2 n.t2]) ho (.cons (.str _ _) (.cons (.str _ _) .nil))
    · intro p hp
      rcases List.mem_cons.mp hp with rfl | hp
      · exact ⟨n, hn, e1, rfl⟩
      · exact h3 p hp
theorem ps_ens : ∀ (ps : List PE) (ens : List EN), ps.map (·.key) = ens.map (·.y) → ps.map (·.v) = ens.map (·.a) → ∀ p ∈ ps, ∃ n ∈ ens, n.y = p.key ∧ n.a = p.v
  | [], _, _, _, _, h => nomatch h
  | q :: r, [], h, _, _, _ => nomatch h
  | q :: r, n :: t, h1, h2, p, hp => by
    simp only [List.map_cons, List.cons.injEq] at h1 h2
    rcases List.mem_cons.mp hp with rfl | hp
    · exact ⟨n, .head _, h1.1.symm, h2.1.symm⟩
    · obtain ⟨k, hk, e⟩ := ps_ens r t h1.2 h2.2 p hp
      exact ⟨k, .tail _ hk, e⟩
/-- the list's part of Spec, for a list that names just the entries of ens -/
theorem spec_of {fs : List Fil} {rb : Bool} {ens : List EN} {qs : List PE} {l : List (Str × Str × Str)} (hn : (fs.map (·.name)).Nodup) (hring : rb = true ↔ ∃ f ∈ fs, Bad rowF fs f.name)
    (hk : ∀ n ∈ ens, ∃ q ∈ qs, q.key = n.y) (hs : qs.Pairwise fun a b => sLt a.key b.key) (hl : l.map (·.1) = qs.map (·.key)) (hp : ∀ p ∈ l, ∃ n ∈ ens, n.y = p.1 ∧ n.e = p.2)
    (he : ∀ n ∈ ens, Node fs n.y ∧ Ends rowF fs n.y n.e) (hall : ∀ y e, Node fs y → Ends rowF fs y e → ∃ n ∈ ens, n.y = y) : Spec fs rb l := by
  refine ⟨hring, ?_, fun y e => ⟨fun h => ?_, fun ⟨h1, h2⟩ => ?_⟩⟩
  · have h1 : (qs.map (·.key)).Pairwise sLt := List.pairwise_map.mpr hs
    rw [← hl] at h1
    exact List.pairwise_map.mp h1
  · obtain ⟨n, hm, e1, e2⟩ := hp _ h
    have := he n hm
    rw [e1, e2] at this
    exact this
  · obtain ⟨n, hm, rfl⟩ := hall y e h1 h2
    obtain ⟨q, hq, e1⟩ := hk n hm
    have h3 : n.y ∈ l.map (·.1) := by rw [hl, ← e1]; exact List.mem_map_of_mem hq
    obtain ⟨p, hpm, e2⟩ := List.mem_map.mp h3
    obtain ⟨k, hkm, e3, e4⟩ := hp p hpm
    have h4 := (he k hkm).2
    rw [e3, e4, e2] at h4
    have := ends_det hn h2 h4
    rw [this, ← e2]
    exact hpm
/-- what the run's walk gives -/
theorem run_spec {fs : List Fil} {rb : Bool} {ens : List EN} {ps qs : List PE} {fin : List Str} {np : Str → Int} {nw tl : Led} (G : GF dirF fs) (hK : KI (edgesOf dirF fs) (namesOf (edgesOf dirF fs)) fin [] [] [] np) (hEn : EnsOk fs ens fin tl)
    (h1 : ps.map (·.key) = ens.map (·.y)) (h2 : ps.map (·.v) = ens.map (·.a)) (h3 : ∀ p ∈ ps, p.obj ∈ nw) (hsub : ∀ p ∈ tl, p ∈ nw) (hp : qs.Perm ps) (hs : qs.Pairwise fun a b => sLt a.key b.key) (hr : rb = true ↔ HasRing (ssE (edgesOf dirF fs))) :
    ∃ l, Spec fs rb l ∧ DatAll nw (qs.map PE.ref) (l.map pairD) := by
  have hns : ∀ y, y ∈ namesOf (edgesOf dirF fs) ↔ ∃ e ∈ edgesOf dirF fs, y = e.1 ∨ y = e.2 := fun y => namesOf_mem
  obtain ⟨l, hl1, hl2, hl3⟩ := pick (ens := ens) (nw := nw) qs (fun q hq => by
    have hq' := hp.mem_iff.mp hq
    obtain ⟨n, hn, e1, e2⟩ := ps_ens ps ens h1 h2 q hq'
    exact ⟨h3 q hq', n, hn, e1, e2, hsub _ (hEn.obj n hn)⟩)
  refine ⟨l, spec_of G.nd ?_ ?_ hs hl2 hl3 ?_ ?_, hl1⟩
  · refine hr.trans ⟨fun h => ring_bad G h, fun ⟨f, _, hb⟩ => bad_ring hb⟩
  · intro n hn
    have : n.y ∈ ps.map (·.key) := by rw [h1]; exact List.mem_map_of_mem hn
    obtain ⟨p, hpm, e⟩ := List.mem_map.mp this
    exact ⟨p, hp.mem_iff.mpr hpm, e⟩
  · intro n hn
    have hy : n.y ∈ fin := by rw [← hEn.keys]; exact List.mem_map_of_mem hn
    exact ⟨(node_iff G _).mp ((hns _).mp (hK.sub _ (by simp [hy]))), hEn.ends n hn⟩
  · rintro y e h4 ⟨k, h5⟩
    have hy := kahn_all G hns hK h5 ((hns _).mpr ((node_iff G _).mpr h4))
    rw [← hEn.keys] at hy
    obtain ⟨n, hn, e⟩ := List.mem_map.mp hy
    exact ⟨n, hn, e⟩
theorem run_end {fs : List Fil} {rb : Bool} {ens : List EN} {ps qs : List PE} {fin : List Str} {np : Str → Int} {nw tl : Led} {g h : Heap} {L T D : Addr} {e c : Nat} (_N : News g L h ((T, { cls := .type "tuple", data := .seq #[.bool rb, .ref D] c }) :: (D, W.listOf (qs.map PE.ref).toArray e) :: nw))
    (G : GF dirF fs) (hK : KI (edgesOf dirF fs) (namesOf (edgesOf dirF fs)) fin [] [] [] np) (hEn : EnsOk fs ens fin tl)
    (h1 : ps.map (·.key) = ens.map (·.y)) (h2 : ps.map (·.v) = ens.map (·.a)) (h3 : ∀ p ∈ ps, p.obj ∈ nw) (hsub : ∀ p ∈ tl, p ∈ nw) (hp : qs.Perm ps) (hs : qs.Pairwise fun a b => sLt a.key b.key) (hr : rb = true ↔ HasRing (ssE (edgesOf dirF fs))) :
    ∃ rb' l, Spec fs rb' l ∧ DatIn ((T, { cls := .type "tuple", data := .seq #[.bool rb, .ref D] c }) :: (D, W.listOf (qs.map PE.ref).toArray e) :: nw) (.ref T) (resD rb' l) := by
  obtain ⟨l, hl, hd⟩ := run_spec (nw := (T, { cls := .type "tuple", data := .seq #[.bool rb, .ref D] c }) :: (D, W.listOf (qs.map PE.ref).toArray e) :: nw) G hK hEn h1 h2 (fun p hp => .tail _ (.tail _ (h3 p hp))) (fun p hp => .tail _ (.tail _ (hsub p hp))) hp hs hr
  exact ⟨rb, l, hl, DatIn.tuple (vs := [.bool rb, .ref D]) (.head _) (.cons (.bool _) (.cons (DatIn.list (.tail _ (.head _)) hd) .nil))⟩
end Mine
-- Bt
open PySem PySem.W PySem.Calls PyProof.Rows
namespace Mine

theorem land_bit (n j : Nat) : n &&& 2 ^ j = if n.testBit j then 2 ^ j else 0 := by
  apply Nat.eq_of_testBit_eq
  intro k
  rw [Nat.testBit_and, Nat.testBit_two_pow]
  by_cases h : j = k
  · subst h
    cases q : n.testBit j <;> simp
  · have : decide (j = k) = false := decide_eq_false h
    rw [this, Bool.and_false]
    split
    · rw [Nat.testBit_two_pow, this]
    · simp
theorem bandN (n b : Nat) : Builtin.bitAnd (n : Int) (b : Int) = ((n &&& b : Nat) : Int) := by
  show Spec.bitAnd (n : Int) (b : Int) = _
  unfold Spec.bitAnd
  rw [decide_eq_true (Int.natCast_nonneg n), decide_eq_true (Int.natCast_nonneg b)]
  rfl
theorem band_bit (n j b : Nat) (hb : b = 2 ^ j) : (Builtin.bitAnd (n : Int) (b : Int) == (b : Int)) = n.testBit j := by
  subst hb
  rw [bandN, land_bit]
  have h0 : 2 ^ j ≠ 0 := Nat.pos_iff_ne_zero.mp (Nat.two_pow_pos j)
  cases q : n.testBit j
  · simp only [Bool.false_eq_true, if_false]
    rw [beq_eq_false_iff_ne]
    exact fun e => h0 (by exact_mod_cast e.symm)
  · simp
theorem band_two (n i j b : Nat) (hb : b = 2 ^ i ||| 2 ^ j) (h1 : ((2 ^ i : Nat) == b) = false) (h2 : ((2 ^ j : Nat) == b) = false) (h3 : ((0 : Nat) == b) = false) : (Builtin.bitAnd (n : Int) (b : Int) == (b : Int)) = (n.testBit i && n.testBit j) := by
  rw [bandN]
  have e : n &&& b = (if n.testBit i then 2 ^ i else 0) ||| (if n.testBit j then 2 ^ j else 0) := by rw [hb, Nat.and_or_distrib_left, land_bit, land_bit]
  rw [e]
  have hc : ∀ a : Nat, (((a : Nat) : Int) == ((b : Nat) : Int)) = (a == b) := fun a => by
    rw [Bool.eq_iff_iff, beq_iff_eq, beq_iff_eq]; omega
  rw [hc]
  cases q1 : n.testBit i <;> cases q2 : n.testBit j
  · simpa using h3
  · simpa using h2
  · simpa using h1
  · rw [if_pos rfl, if_pos rfl, hb]; simp
theorem bitN (n j : Nat) : n / 2 ^ j % 2 = if n.testBit j then 1 else 0 := by
  rw [Nat.testBit_eq_decide_div_mod_eq]
  have : n / 2 ^ j % 2 = 0 ∨ n / 2 ^ j % 2 = 1 := by omega
  rcases this with h | h <;> rw [h] <;> rfl
noncomputable abbrev tb (n j : Nat) : Nat := if n.testBit j then 1 else 0
theorem itm2 (n j : Nat) (a b : Str) (s : Str) (h0 : Txt.item s 0 = a) (h1 : Txt.item s 1 = b) : Txt.item s ((tb n j : Nat) : Int) = if n.testBit j then b else a := by
  cases q : n.testBit j <;> simp [tb, q, h0, h1]
theorem itm4 (n i j : Nat) (a b c d : Str) (s : Str) (h0 : Txt.item s 0 = a) (h1 : Txt.item s 1 = b) (h2 : Txt.item s 2 = c) (h3 : Txt.item s 3 = d) :
    Txt.item s (((tb n i : Nat) : Int) + 2 * ((tb n j : Nat) : Int)) = if n.testBit i && n.testBit j then d else if n.testBit j then c else if n.testBit i then b else a := by
  cases q1 : n.testBit i <;> cases q2 : n.testBit j <;> simp [tb, q1, q2, h0, h1, h2, h3]
theorem fd {a b : Int} (hb : 0 ≤ b) : Int.fdiv a b = a / b := Int.fdiv_eq_ediv_of_nonneg a hb
theorem fm {a b : Int} (hb : 0 ≤ b) : Int.fmod a b = a % b := Int.fmod_eq_emod_of_nonneg a hb
/-- the figures of a place, by its low bit k -/
theorem fig_r (n k w2 w0 : Nat) (hw : (w0 : Int) = 8 ^ k) (h2 : w2 = 4 * w0) (hp : 0 < w0) : Int.fdiv (Int.fmod (Int.fdiv (n : Int) (8 ^ k)) 8) 4 = ((n / w2 % 2 : Nat) : Int) := by
  rw [← hw, fd (by first | decide | omega), fm (by first | decide | omega), fd (by first | decide | omega), h2, Nat.mul_comm 4 w0, ← Nat.div_div_eq_div_mul]
  have : ((n : Int) / (w0 : Int)) = ((n / w0 : Nat) : Int) := by push_cast; rfl
  rw [this]
  generalize n / w0 = q
  omega
theorem fig_w (n k w1 w0 : Nat) (hw : (w0 : Int) = 8 ^ k) (h2 : w1 = 2 * w0) (hp : 0 < w0) : Int.fmod (Int.fdiv (Int.fmod (Int.fdiv (n : Int) (8 ^ k)) 8) 2) 2 = ((n / w1 % 2 : Nat) : Int) := by
  rw [← hw, fd (by first | decide | omega), fm (by first | decide | omega), fd (by first | decide | omega), fm (by first | decide | omega), h2, Nat.mul_comm 2 w0, ← Nat.div_div_eq_div_mul]
  have : ((n : Int) / (w0 : Int)) = ((n / w0 : Nat) : Int) := by push_cast; rfl
  rw [this]
  generalize n / w0 = q
  omega
theorem fig_x (n k w0 : Nat) (hw : (w0 : Int) = 8 ^ k) : Int.fmod (Int.fmod (Int.fdiv (n : Int) (8 ^ k)) 8) 2 = ((n / w0 % 2 : Nat) : Int) := by
  rw [← hw, fd (by first | decide | omega), fm (by first | decide | omega), fm (by first | decide | omega)]
  have : ((n : Int) / (w0 : Int)) = ((n / w0 : Nat) : Int) := by push_cast; rfl
  rw [this]
  generalize n / w0 = q
  omega
theorem abv (n k w0 v : Nat) (hw : (w0 : Int) = 2 ^ k) (hv : v = 512 * w0) (hp : 0 < w0) : Int.fmod (Int.fdiv (Int.fdiv (n : Int) 512) (2 ^ k)) 2 = ((n / v % 2 : Nat) : Int) := by
  rw [← hw, fd (by first | decide | omega), fd (by first | decide | omega), fm (by first | decide | omega), hv, ← Nat.div_div_eq_div_mul]
  have h1 : ((n : Int) / 512) = ((n / 512 : Nat) : Int) := by push_cast; rfl
  have h2 : (((n / 512 : Nat) : Int) / (w0 : Int)) = ((n / 512 / w0 : Nat) : Int) := by push_cast; rfl
  rw [h1, h2]
  generalize n / 512 / w0 = q
  omega
/-- a cell of one bit -/
theorem cell1 (n i j b : Nat) (c : Str) (a : Addr) (tb tc : Tok) (hi : i ≠ 0) (hb : b = 2 ^ j) : fmC (n : Int) i [⟨a, (b : Int), tb, c, tc⟩] = if n.testBit j then c else Str.ofString "-" := by
  unfold fmC
  rw [List.find?_cons]
  unfold fmT
  rw [if_neg hi]
  dsimp only
  rw [band_bit n j b hb]
  cases q : n.testBit j
  · simp [hi]
  · rfl
theorem cell3 (n i j k b1 b2 b3 : Nat) (c1 c2 c3 : Str) (a1 a2 a3 : Addr) (t1 t2 t3 u1 u2 u3 : Tok) (hi : i ≠ 0) (h1 : b1 = 2 ^ j ||| 2 ^ k) (h2 : b2 = 2 ^ k) (h3 : b3 = 2 ^ j) (e1 : ((2 ^ j : Nat) == b1) = false) (e2 : ((2 ^ k : Nat) == b1) = false) (e3 : ((0 : Nat) == b1) = false) :
    fmC (n : Int) i [⟨a1, (b1 : Int), t1, c1, u1⟩, ⟨a2, (b2 : Int), t2, c2, u2⟩, ⟨a3, (b3 : Int), t3, c3, u3⟩] = if n.testBit j && n.testBit k then c1 else if n.testBit k then c2 else if n.testBit j then c3 else Str.ofString "-" := by
  unfold fmC
  rw [List.find?_cons, List.find?_cons, List.find?_cons]
  unfold fmT
  simp only [if_neg hi]
  rw [band_two n j k b1 h1 e1 e2 e3, band_bit n k b2 h2, band_bit n j b3 h3]
  cases q1 : n.testBit j <;> cases q2 : n.testBit k <;> simp [hi]
theorem join10 (a b c d e f g h i j : Str) : Txt.join (Str.ofString "") [a, b, c, d, e, f, g, h, i, j] = a ++ (b ++ c) ++ d ++ (e ++ f) ++ g ++ (h ++ i) ++ j := by
  show PySem.Txt.join _ _ = _
  unfold PySem.Txt.join
  rw [StrLaws.glued_eq_join]
  have h0 : Str.ofString "" = PySem.Str.empty := by decide
  simp only [PySem.Str.join, h0, Str.append_empty, Str.append_assoc]
theorem fmL_eq (x : Int) : fmL x = [fmC x 0 [⟨271, 40960, 561, Str.ofString "l", 596⟩, ⟨272, 49152, 563, Str.ofString "s", 597⟩, ⟨273, 32768, 557, Str.ofString "-", 598⟩, ⟨274, 24576, 555, Str.ofString "b", 599⟩, ⟨275, 16384, 551, Str.ofString "d", 600⟩, ⟨276, 8192, 553, Str.ofString "c", 601⟩, ⟨277, 4096, 559, Str.ofString "p", 602⟩],
    fmC x 1 [⟨279, 256, 578, Str.ofString "r", 603⟩], fmC x 2 [⟨281, 128, 580, Str.ofString "w", 604⟩], fmC x 3 [⟨283, 2112, 605, Str.ofString "s", 606⟩, ⟨284, 2048, 572, Str.ofString "S", 607⟩, ⟨285, 64, 582, Str.ofString "x", 608⟩],
    fmC x 4 [⟨287, 32, 584, Str.ofString "r", 609⟩], fmC x 5 [⟨289, 16, 586, Str.ofString "w", 610⟩], fmC x 6 [⟨291, 1032, 611, Str.ofString "s", 612⟩, ⟨292, 1024, 574, Str.ofString "S", 613⟩, ⟨293, 8, 588, Str.ofString "x", 614⟩],
    fmC x 7 [⟨295, 4, 590, Str.ofString "r", 615⟩], fmC x 8 [⟨297, 2, 592, Str.ofString "w", 616⟩], fmC x 9 [⟨299, 513, 617, Str.ofString "t", 618⟩, ⟨300, 512, 576, Str.ofString "T", 619⟩, ⟨301, 1, 594, Str.ofString "x", 620⟩]] := rfl
theorem first_eq {x : Int} (h : (8192 ≤ x ∧ x < 12288) ∨ (32768 ≤ x ∧ x < 36864)) : fmC x 0 [⟨271, 40960, 561, Str.ofString "l", 596⟩, ⟨272, 49152, 563, Str.ofString "s", 597⟩, ⟨273, 32768, 557, Str.ofString "-", 598⟩, ⟨274, 24576, 555, Str.ofString "b", 599⟩, ⟨275, 16384, 551, Str.ofString "d", 600⟩, ⟨276, 8192, 553, Str.ofString "c", 601⟩, ⟨277, 4096, 559, Str.ofString "p", 602⟩] = rowP x 0 := by
  have hfd : Int.fdiv x 4096 = x / 4096 := fd (by decide)
  unfold fmC rowP
  rw [hfd]
  simp only [List.find?_cons]
  unfold fmT
  simp only [if_true]
  rcases h with h | h
  · rw [band_top 2 (by decide) (by omega) (by omega)]
    have : x / 4096 = 2 := by omega
    rw [this]
    rfl
  · rw [band_top 8 (by decide) (by omega) (by omega)]
    have : x / 4096 = 8 := by omega
    rw [this]
    rfl
theorem cg2 {f : Int → Int → Str} {a a' b b' : Int} (h : a = a') (k : b = b') : f a b = f a' b' := by subst h; subst k; rfl
theorem step_eq (n : Nat) (p : Nat) (r s1 s2 s3 : Str) (h1 : Txt.item (Str.ofString "-r") (Int.fdiv (figI n p) 4) = s1) (h2 : Txt.item (Str.ofString "-w") (Int.fmod (Int.fdiv (figI n p) 2) 2) = s2)
    (h3 : Txt.item (lastI p) (Int.fmod (figI n p) 2 + 2 * abvI n p) = s3) : rowStep n p r = r ++ (s1 ++ s2) ++ s3 := by
  unfold rowStep; rw [h1, h2, h3]
theorem row_eq {x : Int} (h : (8192 ≤ x ∧ x < 12288) ∨ (32768 ≤ x ∧ x < 36864)) : rowP x 3 = rowF x := by
  obtain ⟨n, rfl⟩ : ∃ n : Nat, x = n := ⟨x.toNat, by omega⟩
  unfold rowF
  rw [fmL_eq, join10, first_eq h]
  have e1 : fmC (n : Int) 1 [⟨279, 256, 578, Str.ofString "r", 603⟩] = if n.testBit 8 then Str.ofString "r" else Str.ofString "-" := cell1 n 1 8 256 (Str.ofString "r") 279 578 603 (by decide) (by decide)
  have e2 : fmC (n : Int) 2 [⟨281, 128, 580, Str.ofString "w", 604⟩] = if n.testBit 7 then Str.ofString "w" else Str.ofString "-" := cell1 n 2 7 128 (Str.ofString "w") 281 580 604 (by decide) (by decide)
  have e3 : fmC (n : Int) 3 [⟨283, 2112, 605, Str.ofString "s", 606⟩, ⟨284, 2048, 572, Str.ofString "S", 607⟩, ⟨285, 64, 582, Str.ofString "x", 608⟩] = if n.testBit 6 && n.testBit 11 then Str.ofString "s" else if n.testBit 11 then Str.ofString "S" else if n.testBit 6 then Str.ofString "x" else Str.ofString "-" := cell3 n 3 6 11 2112 2048 64 (Str.ofString "s") (Str.ofString "S") (Str.ofString "x") 283 284 285 605 572 582 606 607 608 (by decide) (by decide) (by decide) (by decide) (by decide) (by decide) (by decide)
  have e4 : fmC (n : Int) 4 [⟨287, 32, 584, Str.ofString "r", 609⟩] = if n.testBit 5 then Str.ofString "r" else Str.ofString "-" := cell1 n 4 5 32 (Str.ofString "r") 287 584 609 (by decide) (by decide)
  have e5 : fmC (n : Int) 5 [⟨289, 16, 586, Str.ofString "w", 610⟩] = if n.testBit 4 then Str.ofString "w" else Str.ofString "-" := cell1 n 5 4 16 (Str.ofString "w") 289 586 610 (by decide) (by decide)
  have e6 : fmC (n : Int) 6 [⟨291, 1032, 611, Str.ofString "s", 612⟩, ⟨292, 1024, 574, Str.ofString "S", 613⟩, ⟨293, 8, 588, Str.ofString "x", 614⟩] = if n.testBit 3 && n.testBit 10 then Str.ofString "s" else if n.testBit 10 then Str.ofString "S" else if n.testBit 3 then Str.ofString "x" else Str.ofString "-" := cell3 n 6 3 10 1032 1024 8 (Str.ofString "s") (Str.ofString "S") (Str.ofString "x") 291 292 293 611 574 588 612 613 614 (by decide) (by decide) (by decide) (by decide) (by decide) (by decide) (by decide)
  have e7 : fmC (n : Int) 7 [⟨295, 4, 590, Str.ofString "r", 615⟩] = if n.testBit 2 then Str.ofString "r" else Str.ofString "-" := cell1 n 7 2 4 (Str.ofString "r") 295 590 615 (by decide) (by decide)
  have e8 : fmC (n : Int) 8 [⟨297, 2, 592, Str.ofString "w", 616⟩] = if n.testBit 1 then Str.ofString "w" else Str.ofString "-" := cell1 n 8 1 2 (Str.ofString "w") 297 592 616 (by decide) (by decide)
  have e9 : fmC (n : Int) 9 [⟨299, 513, 617, Str.ofString "t", 618⟩, ⟨300, 512, 576, Str.ofString "T", 619⟩, ⟨301, 1, 594, Str.ofString "x", 620⟩] = if n.testBit 0 && n.testBit 9 then Str.ofString "t" else if n.testBit 9 then Str.ofString "T" else if n.testBit 0 then Str.ofString "x" else Str.ofString "-" := cell3 n 9 0 9 513 512 1 (Str.ofString "t") (Str.ofString "T") (Str.ofString "x") 299 300 301 617 576 594 618 619 620 (by decide) (by decide) (by decide) (by decide) (by decide) (by decide) (by decide)
  have d1 : Int.fdiv (figI (n : Int) 0) 4 = ((tb n 8 : Nat) : Int) := (fig_r n 2 256 64 (by decide) (by decide) (by decide)).trans (congrArg _ (bitN n 8))
  have d2 : Int.fmod (Int.fdiv (figI (n : Int) 0) 2) 2 = ((tb n 7 : Nat) : Int) := (fig_w n 2 128 64 (by decide) (by decide) (by decide)).trans (congrArg _ (bitN n 7))
  have d3 : Int.fmod (figI (n : Int) 0) 2 = ((tb n 6 : Nat) : Int) := (fig_x n 2 64 (by decide)).trans (congrArg _ (bitN n 6))
  have d3' : abvI (n : Int) 0 = ((tb n 11 : Nat) : Int) := (abv n 2 4 2048 (by decide) (by decide) (by decide)).trans (congrArg _ (bitN n 11))
  have d4 : Int.fdiv (figI (n : Int) 1) 4 = ((tb n 5 : Nat) : Int) := (fig_r n 1 32 8 (by decide) (by decide) (by decide)).trans (congrArg _ (bitN n 5))
  have d5 : Int.fmod (Int.fdiv (figI (n : Int) 1) 2) 2 = ((tb n 4 : Nat) : Int) := (fig_w n 1 16 8 (by decide) (by decide) (by decide)).trans (congrArg _ (bitN n 4))
  have d6 : Int.fmod (figI (n : Int) 1) 2 = ((tb n 3 : Nat) : Int) := (fig_x n 1 8 (by decide)).trans (congrArg _ (bitN n 3))
  have d6' : abvI (n : Int) 1 = ((tb n 10 : Nat) : Int) := (abv n 1 2 1024 (by decide) (by decide) (by decide)).trans (congrArg _ (bitN n 10))
  have d7 : Int.fdiv (figI (n : Int) 2) 4 = ((tb n 2 : Nat) : Int) := (fig_r n 0 4 1 (by decide) (by decide) (by decide)).trans (congrArg _ (bitN n 2))
  have d8 : Int.fmod (Int.fdiv (figI (n : Int) 2) 2) 2 = ((tb n 1 : Nat) : Int) := (fig_w n 0 2 1 (by decide) (by decide) (by decide)).trans (congrArg _ (bitN n 1))
  have d9 : Int.fmod (figI (n : Int) 2) 2 = ((tb n 0 : Nat) : Int) := (fig_x n 0 1 (by decide)).trans (congrArg _ (bitN n 0))
  have d9' : abvI (n : Int) 2 = ((tb n 9 : Nat) : Int) := (abv n 0 1 512 (by decide) (by decide) (by decide)).trans (congrArg _ (bitN n 9))
  show rowStep _ 2 (rowStep _ 1 (rowStep _ 0 (rowP _ 0))) = _
  rw [step_eq n 2 _ _ _ _ ((congrArg (Txt.item _) d7).trans (itm2 n 2 (Str.ofString "-") (Str.ofString "r") _ (by decide) (by decide))) ((congrArg (Txt.item _) d8).trans (itm2 n 1 (Str.ofString "-") (Str.ofString "w") _ (by decide) (by decide))) ((cg2 (f := fun a b => Txt.item (lastI 2) (a + 2 * b)) d9 d9').trans (itm4 n 0 9 (Str.ofString "-") (Str.ofString "x") (Str.ofString "T") (Str.ofString "t") _ (by decide) (by decide) (by decide) (by decide))),
    step_eq n 1 _ _ _ _ ((congrArg (Txt.item _) d4).trans (itm2 n 5 (Str.ofString "-") (Str.ofString "r") _ (by decide) (by decide))) ((congrArg (Txt.item _) d5).trans (itm2 n 4 (Str.ofString "-") (Str.ofString "w") _ (by decide) (by decide))) ((cg2 (f := fun a b => Txt.item (lastI 1) (a + 2 * b)) d6 d6').trans (itm4 n 3 10 (Str.ofString "-") (Str.ofString "x") (Str.ofString "S") (Str.ofString "s") _ (by decide) (by decide) (by decide) (by decide))),
    step_eq n 0 _ _ _ _ ((congrArg (Txt.item _) d1).trans (itm2 n 8 (Str.ofString "-") (Str.ofString "r") _ (by decide) (by decide))) ((congrArg (Txt.item _) d2).trans (itm2 n 7 (Str.ofString "-") (Str.ofString "w") _ (by decide) (by decide))) ((cg2 (f := fun a b => Txt.item (lastI 0) (a + 2 * b)) d3 d3').trans (itm4 n 6 11 (Str.ofString "-") (Str.ofString "x") (Str.ofString "S") (Str.ofString "s") _ (by decide) (by decide) (by decide) (by decide)))]
  rw [e1, e2, e3, e4, e5, e6, e7, e8, e9]
end Mine
-- TlJ
open PySem PySem.W PySem.Calls PyProof.Rows
namespace Mine

section
variable {prog : Program} {w : World} {A : Around} {E : Value → Shared → Prop} {s : Shared} {env : Env} {h₀ : Heap} {body : List Stmt} {Q : Flow → Shared → Prop} {y : Str} {py : Pos}
theorem loopAtT {I : Addr} {src : List Addr} {n : Nat} {P : Nat → Value → Prop} {St : Nat → Heap → Prop} {m₀ : Str → Option Value} {news : Led} {s₂ : Shared}
    (W : Walks prog w A I (I :: src) [I] n P St) (hI : ∀ i h, St i h → ∃ o, h.get? I = some o) (hI0 : h₀.get? I = none) (hIL : env.locals ≠ I) (hIn : ∀ p ∈ news, p.1 ≠ I)
    (hsL : env.locals ∉ src) (hst : St 0 s₂.heap) (F : Fr h₀ env.locals s₂.heap m₀) (N : News h₀ env.locals s₂.heap news)
    (J : Nat → (Str → Option Value) → Led → Prop) (h0 : J 0 m₀ news) (keep : ∀ i m n, J i m n → ∀ d ∈ src, (h₀.get? d).isSome = true ∨ ∃ od, (d, od) ∈ news ∧ (d, od) ∈ n)
    (turn : ∀ i v m₁ news₁ h tk io, i < n → P i v → J i m₁ news₁ → (∀ p ∈ news₁, p.1 ≠ I) → Fr h₀ env.locals h m₁ → News h₀ env.locals h ((I, io) :: news₁) →
      wpAny (model prog w) A (assign (.Name y py) env v) (fun _ s₃ => wpAny (model prog w) A (execs body env) (TurnEnd h₀ env.locals I io (J (i + 1)) s₂ Q) E s₃) E { s₂ with heap := h, toks := tk })
    (done : ∀ m₁ news₁ h tk, J n m₁ news₁ → Fr h₀ env.locals h m₁ → News h₀ env.locals h news₁ → Q .next { s₂ with heap := h, toks := tk }) :
    TurnsAt prog w A h₀ env (.Name y py) body Q E (.ref I) s₂ := by
  have uniq : ∀ d o o', (d, o) ∈ news → (d, o') ∈ news → o = o' := fun d o o' h1 h2 => Option.some.inj ((N _ h1).1.symm.trans (N _ h2).1)
  refine ⟨I, I :: src, [I], n, _, _, St, m₀, news, J, rfl, KTurns.ofWalks W (fun i v s Q E _ hq => wpAny_pure hq), ?_, ?_, ?_, hst, F, N, h0, ?_, ?_⟩
  · intro h
    rcases List.mem_cons.mp h with h | h
    · exact hIL h
    · exact hsL h
  · intro b hb; rw [List.mem_singleton.mp hb]; exact hI0
  · intro p hp hq; exact hIn p hp (List.mem_singleton.mp hq)
  · rintro i v m₁ news₁ h tk own hi hP hJ hoff hsub hget hall hst₁ F₁ N₁
    refine Classical.byContradiction fun hn9 => ?_
    obtain ⟨io, hio⟩ := hI _ _ hst₁
    refine hn9 ?_
    clear hn9
    have hm : (I, io) ∈ own := hall I (.head _) hI0 io hio
    have N₂ : News h₀ env.locals h ((I, io) :: news₁) := fun p hp => by
      rcases List.mem_cons.mp hp with rfl | hp
      · exact N₁ _ (List.mem_append_left _ hm)
      · exact N₁ _ (List.mem_append_right _ hp)
    refine wpAny_mono (turn i v m₁ news₁ h tk io hi hP hJ (fun p hp hq => hoff p hp (by rw [hq]; exact .head _)) F₁ N₂) (fun _ s₃ hs₃ => wpAny_mono hs₃ (fun f s' hs' => ?_) fun _ _ e => e) fun _ _ e => e
    have fin : (∃ h' tk' m' news', s' = { s₂ with heap := h', toks := tk' } ∧ Fr h₀ env.locals h' m' ∧ News h₀ env.locals h' ((I, io) :: news') ∧ (∀ p ∈ news', p.1 ≠ I) ∧ J (i + 1) m' news') →
        LoopStepU h₀ env.locals [I] own (J (i + 1)) { s₂ with heap := h, toks := tk } .next s' := by
      intro hp90
      refine Classical.byContradiction fun hn9 => ?_
      obtain ⟨h', tk', m', news', rfl, F', N', hn', hJ'⟩ := hp90
      refine hn9 ?_
      clear hn9
      refine ⟨rfl, h', tk', m', news', rfl, F', ?_, ?_, hJ'⟩
      · intro p hp
        rcases List.mem_append.mp hp with hp | hp
        · have h1 := hsub p hp
          have h2 := hget p hp
          rcases List.mem_cons.mp h1 with e | h1
          · refine Classical.byContradiction fun hn9 => ?_
            obtain ⟨pa, po⟩ := p
            refine hn9 ?_
            clear hn9
            dsimp only at e h2
            subst e
            have : po = io := Option.some.inj (h2.symm.trans hio)
            subst this
            exact N' _ (.head _)
          · rcases keep _ _ _ hJ p.1 h1 with hs | ⟨od, hd0, hd⟩
            · refine Classical.byContradiction fun hn9 => ?_
              obtain ⟨o', ho'⟩ := Option.isSome_iff_exists.mp hs
              refine hn9 ?_
              clear hn9
              have h4 := (N₁ p (List.mem_append_left _ hp)).2.2
              rw [ho'] at h4; cases h4
            · have h3 := (N₁ _ (List.mem_append_right _ hd)).1
              have : p.2 = od := Option.some.inj (h2.symm.trans h3)
              rcases keep _ _ _ hJ' p.1 h1 with hs | ⟨od', hd0', hd'⟩
              · refine Classical.byContradiction fun hn9 => ?_
                obtain ⟨o', ho'⟩ := Option.isSome_iff_exists.mp hs
                refine hn9 ?_
                clear hn9
                have h4 := (N₁ p (List.mem_append_left _ hp)).2.2
                rw [ho'] at h4; cases h4
              · have h5 := uniq _ _ _ hd0 hd0'
                have h6 := N' (p.1, od') (.tail _ hd')
                rw [← h5, ← this] at h6
                exact h6
        · exact N' p (.tail _ hp)
      · intro p hp hq
        exact hn' p hp (List.mem_singleton.mp hq)
    cases f with
    | ret v => exact .ret hs'
    | brk => exact .brk hs'
    | next => exact .next (fin hs')
    | cont => exact .cont (fin hs')
  · rintro h' tk m' news' F' N' _ hJ
    exact done m' news' h' tk hJ F' N'
theorem iterListC {l : Addr} {lo : Obj} {vs : List Value} {c : Nat} {m₀ : Str → Option Value} {news : Led} (J : (Str → Option Value) → Nat → (Str → Option Value) → Led → Prop)
    (hh : A.handled = none) (F : Fr h₀ env.locals s.heap m₀) (N : News h₀ env.locals s.heap news) (hl : (l, lo) ∈ news) (hc : lo.cls = .type "list") (hd : lo.data = .seq vs.toArray c)
    (h0 : J m₀ 0 m₀ news) (keep : ∀ i m n, J m₀ i m n → (l, lo) ∈ n)
    (turn : ∀ i v m₁ news₁ h tk I io, i < vs.length → vs[i]? = some v → J m₀ i m₁ news₁ → (∀ p ∈ news₁, p.1 ≠ I) → Fr h₀ env.locals h m₁ → News h₀ env.locals h ((I, io) :: news₁) →
      wpAny (model prog w) A (assign (.Name y py) env v) (fun _ s₃ => wpAny (model prog w) A (execs body env) (TurnEnd h₀ env.locals I io (J m₀ (i + 1)) s Q) E s₃) E { s with heap := h, toks := tk })
    (done : DoneOf s env h₀ Q vs.length (J m₀)) :
    wpAny (model prog w) A (pyIter (.ref l)) (fun it s₂ => TurnsAt prog w A h₀ env (.Name y py) body Q E it s₂) E s := by
  have hls : s.heap.IsList l vs.toArray := ⟨lo, (N _ hl).1, hc, c, hd⟩
  refine wpAny_pyIter_list hls ?_
  have hne : l ≠ s.heap.objs.size := Nat.ne_of_lt (Heap.lt_size (N _ hl).1)
  have W := Walks.list (prog := prog) (w := w) hh s.heap.objs.size l hne vs.toArray
  have hlen : vs.toArray.size = vs.length := by simp
  rw [hlen] at W
  refine loopAtT W (fun i h st => let ⟨o, ho, _⟩ := st.1; ⟨o, ho⟩) (fresh_none F) (Nat.ne_of_lt F.ns.lt) (fun p hp => Nat.ne_of_lt (Heap.lt_size (N p hp).1)) ?_
    ⟨⟨_, Heap.get?_push_size _ rfl, rfl, rfl⟩, hls.at fun o e => Heap.get?_push_of_some _ e⟩ (F.push _) (fun p hp => ⟨Heap.get?_push_of_some _ (N p hp).1, (N p hp).2⟩) (J m₀) h0 ?_ ?_ ?_
  · intro h; exact (N _ hl).2.1 (List.mem_singleton.mp h).symm
  · intro i m n hJ d hd'
    rw [List.mem_singleton.mp hd']
    exact .inr ⟨lo, hl, keep i m n hJ⟩
  · intro i v m₁ news₁ h tk io hi hP hJ hn F₁ N₁
    exact turn i v m₁ news₁ h tk _ io hi (by simpa using hP) hJ hn F₁ N₁
  · intro m₁ news₁ h tk hJ F₁ N₁
    exact done m₁ news₁ h tk hJ F₁ N₁
theorem keysS_all : ∀ {kvs : List (Str × Value)} {C : List Value → Prop}, (∀ ks : List (Str × Tok), ks.map (·.1) = kvs.map (·.1) → C (strValues ks)) → KdlKeysS kvs C
  | [], _, h => h [] rfl
  | q :: r, C, h => fun t => keysS_all fun ks hk => h ((q.1, t) :: ks) (by simp [hk])
theorem list_keys {L d : Addr} {o : Obj} {m : Str → Option Value} {news : Led} {kvs : List (Str × Value)} {Q : Value → Shared → Prop} (hh : A.handled = none) (F : Fr h₀ L s.heap m) (N : News h₀ L s.heap news) (hp : (d, o) ∈ news) (hd : o.IsDictOf (PySem.strKind prog w) kvs) (lo : (d == sysModules) = false) (hn : kvs.length ≤ 100)
    (h : ∀ (B : Addr) c h' tk (ks : List (Str × Tok)), ks.map (·.1) = kvs.map (·.1) → Fr h₀ L h' m → News h₀ L h' ((B, listOf (strValues ks).toArray c) :: news) → (∀ q ∈ news, q.1 < B) → Q (.ref B) { s with heap := h', toks := tk }) :
    wpAny (model prog w) A (call (.type "list") [.ref d]) Q E s :=
  kdl_list_keysS hh F N hp hd lo (Nat.le_trans hn (by decide)) fun B c h' tk => keysS_all fun ks hk F' N' l1 => h B c h' tk ks hk F' N' l1
end
theorem add4 {prog : Program} {w : World} {A : Around} {E : Value → Shared → Prop} {s : Shared} {h₀ : Heap} {L a b : Addr} {m : Str → Option Value} {news : Led} {ks : List (Str × Tok)} {c c2 : Nat} {x1 x2 x3 x4 : Str} {t1 t2 t3 t4 : Tok} {kvs : List (Str × Value)} {Q : Value → Shared → Prop} (F : Fr h₀ L s.heap m) (N : News h₀ L s.heap news)
    (ha : (a, listOf (strValues ks).toArray c) ∈ news) (hb : (b, listOf #[.str x1 t1, .str x2 t2, .str x3 t3, .str x4 t4] c2) ∈ news) (hk : ks.map (·.1) = kvs.map (·.1)) (hn : kvs.length ≤ 100)
    (h : ∀ D h' ks', ks'.map (·.1) = kvs.map (·.1) ++ [x1, x2, x3, x4] → Fr h₀ L h' m → News h₀ L h' ((D, listOf (strValues ks').toArray 0) :: news) → (∀ p ∈ news, p.1 < D) → Q (.ref D) { s with heap := h' }) :
    wpAny (model prog w) A (binaryOp .Add (.ref a) (.ref b)) Q E s := by
  have hl : ks.length = kvs.length := by simpa using congrArg List.length hk
  refine kmk_add_lit (zs := strValues (ks ++ [(x1, t1), (x2, t2), (x3, t3), (x4, t4)])) F N (News.isList N ha) (News.isList N hb) (by simp [strValues]) (fun D h' F' N' l1 => h D h' _ (by rw [List.map_append, hk]; rfl) F' N' l1) ?_
  rw [sizeLine_eq]
  simp [strValues]
  omega
noncomputable def toldL (fs : List Fil) : List Str := fs.map (·.name) ++ [sN, sR, sU, sV]
/-- what told has gathered after some names -/
structure TI (fs : List Fil) (xs : List Str) (rb : Bool) (ens : List EN) (ps : List PE) (nw : Led) : Prop where
  ring : rb = true ↔ ∃ y ∈ xs, Bad rowF fs y
  ky : ps.map (·.key) = ens.map (·.y)
  va : ps.map (·.v) = ens.map (·.a)
  po : ∀ p ∈ ps, p.obj ∈ nw
  eo : ∀ n ∈ ens, n.obj ∈ nw
  ends : ∀ n ∈ ens, Node fs n.y ∧ Ends rowF fs n.y n.e
  all : ∀ y ∈ xs, Node fs y → (∃ e, Ends rowF fs y e) → ∃ n ∈ ens, n.y = y
  sub : (ens.map (·.y)).Sublist xs
section
variable {fs : List Fil} {xs : List Str} {rb : Bool} {ens : List EN} {ps : List PE} {nw nw' : Led} {x : Str}
theorem TI.nil : TI fs [] false [] [] nw := ⟨by simp, rfl, rfl, by simp, by simp, by simp, by simp, .slnil⟩
theorem TI.more (h : TI fs xs rb ens ps nw) (hs : ∀ p ∈ nw, p ∈ nw') : TI fs xs rb ens ps nw' := ⟨h.ring, h.ky, h.va, fun p hp => hs _ (h.po p hp), fun n hn => hs _ (h.eo n hn), h.ends, h.all, h.sub⟩
theorem TI.bad (h : TI fs xs rb ens ps nw) (hb : Bad rowF fs x) : TI fs (xs ++ [x]) true ens ps nw := by
  refine ⟨⟨fun _ => ⟨x, by simp, hb⟩, fun _ => rfl⟩, h.ky, h.va, h.po, h.eo, h.ends, fun y hy hn he => ?_, h.sub.trans (List.sublist_append_left _ _)⟩
  rcases List.mem_append.mp hy with hy | hy
  · exact h.all y hy hn he
  · rw [List.mem_singleton.mp hy] at he; exact absurd he hb
theorem ti_ring (h : TI fs xs rb ens ps nw) (he : ∃ e, Ends rowF fs x e) : rb = true ↔ ∃ y ∈ xs ++ [x], Bad rowF fs y := by
  refine h.ring.trans ⟨fun ⟨y, hy, hb⟩ => ⟨y, by simp [hy], hb⟩, fun ⟨y, hy, hb⟩ => ?_⟩
  rcases List.mem_append.mp hy with hy | hy
  · exact ⟨y, hy, hb⟩
  · rw [List.mem_singleton.mp hy] at hb; exact absurd he hb
theorem TI.skip (h : TI fs xs rb ens ps nw) (he : ∃ e, Ends rowF fs x e) (hn : ¬ Node fs x) : TI fs (xs ++ [x]) rb ens ps nw := by
  refine ⟨ti_ring h he, h.ky, h.va, h.po, h.eo, h.ends, fun y hy hn' he => ?_, h.sub.trans (List.sublist_append_left _ _)⟩
  rcases List.mem_append.mp hy with hy | hy
  · exact h.all y hy hn' he
  · rw [List.mem_singleton.mp hy] at hn'; exact absurd hn' hn
theorem TI.put (h : TI fs xs rb ens ps nw) {n : EN} {p : PE} (e1 : n.y = x) (e2 : p.key = x) (e3 : p.v = n.a) (he : Ends rowF fs x n.e) (hn : Node fs x) (ho : n.obj ∈ nw) (hp : p.obj ∈ nw) : TI fs (xs ++ [x]) rb (ens ++ [n]) (ps ++ [p]) nw := by
  refine ⟨ti_ring h ⟨_, he⟩, by simp [h.ky, e1, e2], by simp [h.va, e3], ?_, ?_, ?_, ?_, ?_⟩
  · intro q hq
    rcases List.mem_append.mp hq with hq | hq
    · exact h.po q hq
    · rw [List.mem_singleton.mp hq]; exact hp
  · intro q hq
    rcases List.mem_append.mp hq with hq | hq
    · exact h.eo q hq
    · rw [List.mem_singleton.mp hq]; exact ho
  · intro q hq
    rcases List.mem_append.mp hq with hq | hq
    · exact h.ends q hq
    · rw [List.mem_singleton.mp hq, e1]; exact ⟨hn, he⟩
  · intro y hy hn' he'
    rcases List.mem_append.mp hy with hy | hy
    · refine Classical.byContradiction fun hn9 => ?_
      obtain ⟨q, hq, e⟩ := h.all y hy hn' he'
      refine hn9 ?_
      clear hn9
      exact ⟨q, by simp [hq], e⟩
    · rw [List.mem_singleton.mp hy]; exact ⟨n, by simp, e1⟩
  · rw [List.map_append]
    simp only [List.map_cons, List.map_nil, e1]
    exact h.sub.append (List.Sublist.refl _)
end
theorem told_nd {fs : List Fil} (G : GF dirF fs) : (toldL fs).Nodup := by
  unfold toldL
  rw [List.nodup_append]
  refine ⟨G.nd, by decide, ?_⟩
  rintro a ha b hb rfl
  refine Classical.byContradiction fun hn9 => ?_
  obtain ⟨f, hf, rfl⟩ := List.mem_map.mp ha
  refine hn9 ?_
  clear hn9
  refine Classical.byContradiction fun hn9 => ?_
  obtain ⟨h1, h2, h3, h4⟩ := G.off f hf
  refine hn9 ?_
  clear hn9
  simp only [List.mem_cons, List.not_mem_nil, or_false] at hb
  rcases hb with e | e | e | e
  · exact h4 e
  · exact h1 e
  · exact h2 e
  · exact h3 e
theorem node_told {fs : List Fil} {y : Str} (h : Node fs y) : y ∈ toldL fs := by
  unfold toldL
  rcases h with rfl | rfl | rfl | ⟨f, hf, rfl⟩ | ⟨rfl, _⟩
  · simp
  · simp
  · simp
  · exact List.mem_append_left _ (List.mem_map_of_mem hf)
  · simp
/-- what told's walk gives -/
theorem told_spec {fs : List Fil} {rb : Bool} {ens : List EN} {ps qs : List PE} {nw : Led} (G : GF dirF fs) (h : TI fs (toldL fs) rb ens ps nw) (hp : qs.Perm ps) (hs : qs.Pairwise fun a b => sLt a.key b.key) :
    ∃ l, Spec fs rb l ∧ DatAll nw (qs.map PE.ref) (l.map pairD) := by
  obtain ⟨l, hl1, hl2, hl3⟩ := pick (ens := ens) (nw := nw) qs (fun q hq => by
    have hq' := hp.mem_iff.mp hq
    refine Classical.byContradiction fun hn9 => ?_
    obtain ⟨n, hn, e1, e2⟩ := ps_ens ps ens h.ky h.va q hq'
    refine hn9 ?_
    clear hn9
    exact ⟨h.po q hq', n, hn, e1, e2, h.eo n hn⟩)
  refine ⟨l, spec_of G.nd ?_ ?_ hs hl2 hl3 h.ends (fun y e hn he => h.all y (node_told hn) hn ⟨e, he⟩), hl1⟩
  · refine h.ring.trans ⟨fun ⟨y, _, hb⟩ => ?_, fun ⟨f, hf, hb⟩ => ⟨f.name, node_told (.inr (.inr (.inr (.inl ⟨f, hf, rfl⟩)))), hb⟩⟩
    refine Classical.byContradiction fun hn9 => ?_
    obtain ⟨f, hf, e, _⟩ := bad_next hb
    refine hn9 ?_
    clear hn9
    exact ⟨f, hf, e ▸ hb⟩
  · intro n hn
    have : n.y ∈ ps.map (·.key) := by rw [h.ky]; exact List.mem_map_of_mem hn
    refine Classical.byContradiction fun hn9 => ?_
    obtain ⟨p, hpm, e⟩ := List.mem_map.mp this
    refine hn9 ?_
    clear hn9
    exact ⟨p, hp.mem_iff.mpr hpm, e⟩
theorem told_end {fs : List Fil} {rb : Bool} {ens : List EN} {ps qs : List PE} {nw : Led} {g h : Heap} {L T D : Addr} {e c : Nat} (_N : News g L h ((T, { cls := .type "tuple", data := .seq #[.bool rb, .ref D] c }) :: (D, W.listOf (qs.map PE.ref).toArray e) :: nw))
    (G : GF dirF fs) (hT : TI fs (toldL fs) rb ens ps nw) (hp : qs.Perm ps) (hs : qs.Pairwise fun a b => sLt a.key b.key) :
    ∃ rb' l, Spec fs rb' l ∧ DatIn ((T, { cls := .type "tuple", data := .seq #[.bool rb, .ref D] c }) :: (D, W.listOf (qs.map PE.ref).toArray e) :: nw) (.ref T) (resD rb' l) := by
  refine Classical.byContradiction fun hn9 => ?_
  obtain ⟨l, hl, hd⟩ := told_spec (nw := (T, { cls := .type "tuple", data := .seq #[.bool rb, .ref D] c }) :: (D, W.listOf (qs.map PE.ref).toArray e) :: nw) G (hT.more fun p hp => .tail _ (.tail _ hp)) hp hs
  refine hn9 ?_
  clear hn9
  exact ⟨rb, l, hl, DatIn.tuple (vs := [.bool rb, .ref D]) (.head _) (.cons (.bool _) (.cons (DatIn.list (.tail _ (.head _)) hd) .nil))⟩
/-- told's inner loop: the place after some steps -/
inductive JStp (fs : List Fil) (x : Str) (nw₀ : Led) (m₀ : Str → Option Value) (k : Nat) (m : Str → Option Value) (nw : Led) : Prop
  | mk (n : _)
    (z : _)
    (t : _)
    (tz : _)
    (hz0 : k = fs.length + 1 - n)
    (hz1 : n ≤ fs.length + 1)
    (hz2 : Stp fs n x z)
    (hz3 : nw = nw₀)
    (hz4 : m = fun y => if y = Str.ofString "steps" then some (.int (n : Nat) t) else if y = Str.ofString "place" then some (.str z tz) else m₀ y)
inductive JTold (fs : List Fil) (dE cF cP : Addr) (oF : Obj) (rest : Led) (m₀ : Str → Option Value) (i : Nat) (m : Str → Option Value) (nw : Led) : Prop
  | mk (rb : _)
    (ens : _)
    (ps : _)
    (c : _)
    (oP : _)
    (vP : _)
    (tl : _)
    (u1 : _)
    (u2 : _)
    (hz0 : TI fs ((toldL fs).take i) rb ens ps tl)
    (hz1 : oP.data = Data.cell vP)
    (hz2 : (∀ p ∈ rest, p ∈ tl))
    (hz3 : ND nw)
    (hz4 : m = (fun y => if y = Str.ofString "ring" then some (.bool rb) else if y = Str.ofString "place" then u1 else if y = Str.ofString "steps" then u2 else m₀ y))
    (hz5 : nw = (dE, W.listOf (ps.map PE.ref).toArray c) :: (cF, oF) :: (cP, oP) :: tl)
theorem rowP_eq {x : Int} (h : (8192 ≤ x ∧ x < 12288) ∨ (32768 ≤ x ∧ x < 36864)) : rowP x 3 = rowF x := row_eq h
theorem law_rowF_c (w : World) (mean : ExcName → Option Value) (mg mb : Str → Option Value) (x : Int) (t : Tok) (news : Led) (h : (8192 ≤ x ∧ x < 12288) ∨ (32768 ≤ x ∧ x < 36864)) :
    Tell w mean mg mb 3 40 327 [.int x t] news (fun v n' => n' = news ∧ ∃ t, v = .str (rowF x) t) := by
  rw [← rowP_eq h]
  exact law_row_c w mean mg mb x t news (by omega) (by omega)
theorem map_st {P S : Str} {X Y : Option Value} {R : Str → Option Value} (hne : P ≠ S) : (fun y => if y = P then X else if y = S then Y else R y) = fun y => if y = S then Y else if y = P then X else (fun y => if y = P then X else if y = S then Y else R y) y := by
  funext y
  by_cases h1 : y = P
  · have h2 : y ≠ S := fun e => hne (h1.symm.trans e)
    simp only [if_pos h1, if_neg h2]
  · by_cases h2 : y = S
    · simp only [if_neg h1, if_pos h2]
    · simp only [if_neg h1, if_neg h2]
theorem packP {g h : Heap} {L P T I lE : Addr} {io oL : Obj} {pB pC pC' : Addr × Obj} {tl : Led} {x a b : Str} {tx t1 t2 : Tok} {ps : List PE} {c : Nat} (hpc : pC'.1 = pC.1)
    (N : News g L h ((P, { cls := .type "tuple", data := .seq #[.str x tx, .ref T] }) :: (T, { cls := .type "tuple", data := .seq #[.str a t1, .str b t2] }) :: (I, io) :: (lE, W.listOf (ps.map PE.ref ++ [Value.ref P]).toArray c) :: pB :: pC' :: tl))
    (hnd : ND ((I, io) :: (lE, oL) :: pB :: pC :: tl)) (ltT : ∀ q ∈ (I, io) :: (lE, oL) :: pB :: pC :: tl, q.1 < T) (ltP : T < P ∧ ∀ q ∈ (I, io) :: (lE, oL) :: pB :: pC :: tl, q.1 < P) :
    ∃ (n : EN) (p : PE), n.y = x ∧ n.e = (a, b) ∧ p.key = x ∧ p.v = n.a ∧ News g L h ((I, io) :: (lE, W.listOf ((ps ++ [p]).map PE.ref).toArray c) :: pB :: pC' :: p.obj :: n.obj :: tl) ∧ ND ((I, io) :: (lE, W.listOf ((ps ++ [p]).map PE.ref).toArray c) :: pB :: pC' :: p.obj :: n.obj :: tl) := by
  refine ⟨⟨x, T, (a, b), t1, t2⟩, ⟨P, x, tx, T⟩, rfl, rfl, rfl, rfl, cb_drop N fun q hq => ?_, ?_⟩
  · rw [List.map_append] at hq
    simp only [List.mem_cons] at hq ⊢
    rcases hq with h | h | h | h | h | h | h
    · exact .inr (.inr (.inl h))
    · exact .inr (.inr (.inr (.inl h)))
    · exact .inr (.inr (.inr (.inr (.inl h))))
    · exact .inr (.inr (.inr (.inr (.inr (.inl h)))))
    · exact .inl h
    · exact .inr (.inl h)
    · exact .inr (.inr (.inr (.inr (.inr (.inr h)))))
  · have h1 : ND ((P, oL) :: (T, oL) :: (I, io) :: (lE, oL) :: pB :: pC :: tl) := nd_cons.mpr ⟨fun q hq => by
      rcases List.mem_cons.mp hq with rfl | hq
      · exact Nat.ne_of_lt ltP.1
      · exact Nat.ne_of_lt (ltP.2 q hq), nd_cons.mpr ⟨fun q hq => Nat.ne_of_lt (ltT q hq), hnd⟩⟩
    have hp : ∀ (a b c d e f : Addr × Obj) (l : Led), (a :: b :: c :: d :: e :: f :: l).Perm (c :: d :: e :: f :: a :: b :: l) := fun a b c d e f l => by
      have e1 : (a :: b :: c :: d :: e :: f :: l) = [a, b] ++ ([c, d, e, f] ++ l) := rfl
      have e2 : (c :: d :: e :: f :: a :: b :: l) = [c, d, e, f] ++ ([a, b] ++ l) := rfl
      rw [e1, e2]
      exact List.perm_append_comm_assoc _ _ _
    have h2 := ND.perm h1 (hp _ _ _ _ _ _ _)
    refine nd_keys h2 ?_
    simp [PE.obj, EN.obj, hpc]
theorem mem_plain {f : Fil} {fs : List Fil} (hn : (fs.map (·.name)).Nodup) (hf : f ∈ fs) (hg : f.goal = sE) : Ends rowF fs f.name (f.name, rowF f.mode) := ⟨0, .plain hf hg⟩
theorem map_end {P S R : Str} {a b c d r u1 u2 : Option Value} {M : Str → Option Value} (h1 : P ≠ S) (h2 : R ≠ P) (h3 : R ≠ S) :
    (fun y => if y = S then a else if y = P then b else if y = P then c else if y = S then d else if y = R then r else if y = P then u1 else if y = S then u2 else M y) = fun y => if y = R then r else if y = P then b else if y = S then a else M y := by
  funext y
  by_cases hR : y = R
  · have k1 : y ≠ P := fun e => h2 (hR.symm.trans e)
    have k2 : y ≠ S := fun e => h3 (hR.symm.trans e)
    simp only [if_pos hR, if_neg k1, if_neg k2]
  · by_cases hP : y = P
    · have k2 : y ≠ S := fun e => h1 (hP.symm.trans e)
      simp only [if_neg hR, if_pos hP, if_neg k2]
    · by_cases hS : y = S
      · simp only [if_neg hR, if_neg hP, if_pos hS]
      · simp only [if_neg hR, if_neg hP, if_neg hS]
theorem map_end2 {P S R : Str} {a b c d r r' u1 u2 : Option Value} {M : Str → Option Value} (h1 : P ≠ S) (h2 : R ≠ P) (h3 : R ≠ S) :
    (fun y => if y = R then r' else if y = S then a else if y = P then b else if y = P then c else if y = S then d else if y = R then r else if y = P then u1 else if y = S then u2 else M y) = fun y => if y = R then r' else if y = P then b else if y = S then a else M y := by
  have := map_end (a := a) (b := b) (c := c) (d := d) (r := r) (u1 := u1) (u2 := u2) (M := M) h1 h2 h3
  funext y
  have h := congrFun this y
  by_cases hR : y = R
  · simp only [if_pos hR]
  · simp only [if_neg hR] at h ⊢
    exact h
theorem map_step {P S : Str} {n : Nat} {t : Tok} {b c d : Option Value} {M : Str → Option Value} : (fun y => if y = S then some (.int (((n : Nat) : Int) + 1) t) else if y = P then b else if y = S then c else if y = P then d else M y) = fun y => if y = S then some (.int ((n + 1 : Nat) : Int) t) else if y = P then b else M y := by
  funext y
  by_cases hS : y = S
  · simp only [if_pos hS]; rfl
  · by_cases hP : y = P
    · simp only [if_neg hS, if_pos hP]
    · simp only [if_neg hS, if_neg hP]
theorem node_of {fs : List Fil} {x : Str} (h : x ∈ toldL fs) (hn : x ≠ sN) : Node fs x := by
  unfold toldL at h
  rcases List.mem_append.mp h with h | h
  · refine Classical.byContradiction fun hn9 => ?_
    obtain ⟨f, hf, e⟩ := List.mem_map.mp h
    refine hn9 ?_
    clear hn9
    exact .inr (.inr (.inr (.inl ⟨f, hf, e⟩)))
  · simp only [List.mem_cons, List.not_mem_nil, or_false] at h
    rcases h with h | h | h | h
    · exact absurd h hn
    · exact .inl h
    · exact .inr (.inl h)
    · exact .inr (.inr (.inl h))
theorem stp_file {fs : List Fil} {n : Nat} {x z : Str} (h : Stp fs n x z) (hx : ∀ f ∈ fs, f.name ≠ x) : z = x := by
  induction h with
  | zero => rfl
  | succ _ hf _ ih => exact absurd (ih hx) (hx _ hf)
theorem nd_offT {I : Addr} {io : Obj} {a b c c' : Addr × Obj} {tl : Led} (h : ND ((I, io) :: a :: b :: c :: tl)) (e : c'.1 = c.1) : ∀ p ∈ a :: b :: c' :: tl, p.1 ≠ I := by
  have h1 := (nd_cons.mp h).1
  simp only [List.forall_mem_cons] at h1 ⊢
  exact ⟨h1.1, h1.2.1, by rw [e]; exact h1.2.2.1, h1.2.2.2⟩
theorem flt_step {fis : List FI} {i : Nat} {fi : FI} (h : fis[i]? = some fi) : ((fis.take (i + 1)).filter fun f => decide (f.f.goal = sN)).map (·.f.name) = ((fis.take i).filter fun f => decide (f.f.goal = sN)).map (·.f.name) ++ if fi.f.goal = sN then [fi.f.name] else [] := by
  rw [List.take_add_one, h, List.filter_append, List.map_append]
  congr 1
  by_cases hc : fi.f.goal = sN
  · simp [hc]
  · simp [hc]
theorem strs_dat {news : Led} : ∀ ks : List (Str × Tok), DatAll news (strValues ks) (ks.map fun p => Dat.str p.1)
  | [] => .nil
  | p :: r => .cons (.str _ _) (strs_dat r)
theorem ne_empty {prog : Program} {w : World} {A : Around} {E : Value → Shared → Prop} {s : Shared} {h₀ : Heap} {L a b : Addr} {news : Led} {ks : List (Str × Tok)} {c c2 : Nat} {Q : Value → Shared → Prop} {r : Bool} (N : News h₀ L s.heap news) (ma : (a, W.listOf (strValues ks).toArray c) ∈ news) (mb : (b, W.listOf #[] c2) ∈ news)
    (hok : ∀ p ∈ ks, PyData.strOk p.1 = true) (hu : A.units + 64 < cLine) (hr : (!decide (ks = [])) = r) (h : Q (.bool r) s) : wpAny (model prog w) A (compareOp .NotEq (.ref a) (.ref b)) Q E s := by
  refine kqd_ne (ds := ks.map fun p => Dat.str p.1) (es := []) (n₁ := news) (n₂ := news) N ma rfl rfl (strs_dat ks) (fun _ h => h) mb rfl rfl .nil (fun _ h => h) ?_ (by simp) hu ?_
  · intro d hd
    refine Classical.byContradiction fun hn9 => ?_
    obtain ⟨p, hp, rfl⟩ := List.mem_map.mp hd
    refine hn9 ?_
    clear hn9
    unfold kqdOk
    exact hok p hp
  · subst hr
    cases ks <;> simpa using h
end Mine
-- Rn
open PySem PySem.W PySem.Calls PyProof.Rows
namespace Mine


theorem lines_Rn1 : True := by
  k_with_none
  k_with "k_ne" => (first | with_reducible assumption | exact Ne.symm (by with_reducible assumption) | (refine neN ?_; (try dsimp only); first | with_reducible assumption | exact Ne.symm (by with_reducible assumption) | exact Nat.ne_of_lt (by with_reducible assumption) | exact Nat.ne_of_gt (by with_reducible assumption) | exact nl0 (by with_reducible assumption) | exact ng0 (by with_reducible assumption) | exact nl1 (by with_reducible assumption) | exact ng1 (by with_reducible assumption) | exact nl2 (by with_reducible assumption) | exact ng2 (by with_reducible assumption) | exact nl3 (by with_reducible assumption) | exact ng3 (by with_reducible assumption) | exact nl4 (by with_reducible assumption) | exact ng4 (by with_reducible assumption) | exact nl5 (by with_reducible assumption) | exact ng5 (by with_reducible assumption) | exact nl6 (by with_reducible assumption) | exact ng6 (by with_reducible assumption) | exact nl7 (by with_reducible assumption) | exact ng7 (by with_reducible assumption) | exact nl8 (by with_reducible assumption) | exact ng8 (by with_reducible assumption) | exact nl9 (by with_reducible assumption) | exact ng9 (by with_reducible assumption) | omega))
  k_with "room" => (first | exact room0 (by with_reducible assumption) | exact room1 (by with_reducible assumption) (by decide) | exact room2 (by with_reducible assumption) (by decide) | exact room3 (by with_reducible assumption) (by decide))
  k_with "units" => (first | exact unit0 (by with_reducible assumption) | exact unit1 (by with_reducible assumption) (by decide) | exact unit2 (by with_reducible assumption) (by decide) | exact unit3 (by with_reducible assumption) (by decide))
  k_with "om" => (first | with_reducible assumption | with_reducible exact le_lit (by with_reducible assumption) (by decide) | with_reducible exact add_lit (by with_reducible assumption) (by with_reducible assumption) (by with_reducible assumption) (by decide) | with_reducible exact lt_lel (by with_reducible assumption) (by decide) | with_reducible exact sum_lit (by with_reducible assumption) (by with_reducible assumption) (by decide) | with_reducible exact suc_lit (by with_reducible assumption) (by decide) | with_reducible exact lt_lit (by with_reducible assumption) (by decide) | with_reducible exact le_ltl (by with_reducible assumption) (by decide) | with_reducible exact ige_lit (by with_reducible assumption) (by decide) | with_reducible exact ile_lit (by with_reducible assumption) (by decide) | with_reducible exact ilt_lit (by with_reducible assumption) (by decide) | omega)
  k_with "execs cons" => (k_here; k_fold)
  k_with "execs cons" => (k_here; (with_reducible show wpAny _ _ _ _ _ (Shared.mk _ _ _ (_ + _) _)); refine toks_all ?_; intro tk; (try dsimp only))
  k_with "execs nil" => (k_here; (with_reducible show wpAny _ _ _ _ _ (Shared.mk _ _ _ (_ + _) _)); refine toks_all ?_; intro tk; (try dsimp only))
  k_with "eval BinOp" => (k_here; k_fold)
  k_with "eval Call Attribute" => (k_here; k_fold)
  k_with "eval Call Name" => (k_here; k_fold)
  k_with "eval Call" => (k_here; k_fold)
  k_with "eval Subscript" => (k_here; k_fold)
  k_with "eval Compare" => (k_here; k_fold)
  k_with "eval IfExp" => (k_here; k_fold)
  k_with "eval List" => (k_here; k_fold)
  k_with "eval Tuple" => (k_here; k_fold)
  k_with "k_all" => (first | exact allLt_ne (by assumption) | assumption | (intro p9 hp9; refine neN ?_; have h9 := ltN (ktn_ltOf (by first | assumption | exact (show _ ∧  AllLt _ _ by assumption).2 | exact (show _ ∧ _ ∧  AllLt _ _ by assumption).2.2 | exact (show _ ∧ _ ∧ _ ∧  AllLt _ _ by assumption).2.2.2 | exact (show _ ∧ _ ∧ _ ∧ _ ∧  AllLt _ _ by assumption).2.2.2.2 | exact (show _ ∧ _ ∧ _ ∧ _ ∧ _ ∧  AllLt _ _ by assumption).2.2.2.2.2 | exact (show _ ∧ _ ∧ _ ∧ _ ∧ _ ∧ _ ∧  AllLt _ _ by assumption).2.2.2.2.2.2 | exact (show _ ∧ _ ∧ _ ∧ _ ∧ _ ∧ _ ∧ _ ∧  AllLt _ _ by assumption).2.2.2.2.2.2.2 | exact (show _ ∧ _ ∧ _ ∧ _ ∧ _ ∧ _ ∧ _ ∧ _ ∧  AllLt _ _ by assumption).2.2.2.2.2.2.2.2 | exact (show _ ∧ _ ∧ _ ∧ _ ∧ _ ∧ _ ∧ _ ∧ _ ∧ _ ∧  AllLt _ _ by assumption).2.2.2.2.2.2.2.2.2 | exact (show _ ∧ _ ∧ _ ∧ _ ∧ _ ∧ _ ∧ _ ∧ _ ∧ _ ∧ _ ∧  AllLt _ _ by assumption).2.2.2.2.2.2.2.2.2.2) p9 hp9); first | exact Nat.ne_of_lt h9 | exact Nat.ne_of_gt h9 | omega))
  k_with "pyIter ref" => (refine Held.mk ?_)
  k_with "call ref" => (k_here; (with_reducible show wpAny _ _ (call (Value.ref 129) [Value.str _ _]) _ _ _); k_dflt (refine' tellS_use (dirname_c _ _ _ _ _ _ _ (by with_reducible assumption)) (by k_asm) (by k_asm) (by k_asm) (by k_asm) (by k_asm) (by first | exact rfl | assumption) (by ktr_room) (by ktr_units) ?_); intro t9 h9 tk9 F9 N9; (try dsimp only); (try k_fold))
  k_with "subscriptTail Name Name ref str" => (k_here; (with_reducible show wpAny _ _ (subscriptTail _ _ (Value.ref _) (Value.str _ _)) _ _ _); k_dflt (refine' kda_item (knd := PySem.strKind _ _) (by k_asm) (by k_mem) (by assumption) (strKind_is _ _ _ _) (by first | assumption | exact valueAt_stored (by assumption)) ?_))
  k_with "subscriptTail Name Subscript ref str" => (k_here; (with_reducible show wpAny _ _ (subscriptTail _ _ (Value.ref _) (Value.str _ _)) _ _ _); k_dflt (refine' kda_item (knd := PySem.strKind _ _) (by k_asm) (by k_mem) (by assumption) (strKind_is _ _ _ _) (by first | assumption | exact valueAt_stored (by assumption)) ?_))
  k_with "setItem ref str" => (k_here; k_dflt (refine' kda_set (knd := PySem.strKind _ _) (by k_asm) (by k_asm) (by k_updF) (by k_asm) (strKind_is _ _ _ _) (by first | exact le_line (by with_reducible assumption) | (rw [sizeLine_eq]; omega)) ?_); intro h' o' F' N' hd'; (try dsimp only at N'))
  k_with "setItem ref str ref" => (k_here; k_dflt (refine' kda_set (knd := PySem.strKind _ _) (by k_asm) (by k_asm) (by k_updF) (by k_asm) (strKind_is _ _ _ _) (by first | exact le_line (by with_reducible assumption) | (rw [sizeLine_eq]; omega)) ?_); intro h' o' F' N' hd'; (try dsimp only at N'))
  k_with "k_ne" => (first | with_reducible assumption | exact Ne.symm (by with_reducible assumption) | (refine neN ?_; (try dsimp only); first | with_reducible assumption | exact Ne.symm (by with_reducible assumption) | exact Nat.ne_of_lt (by with_reducible assumption) | exact Nat.ne_of_gt (by with_reducible assumption) | exact nl0 (by with_reducible assumption) | exact ng0 (by with_reducible assumption) | exact nl1 (by with_reducible assumption) | exact ng1 (by with_reducible assumption) | exact nl2 (by with_reducible assumption) | exact ng2 (by with_reducible assumption) | exact nl3 (by with_reducible assumption) | exact ng3 (by with_reducible assumption) | exact nl4 (by with_reducible assumption) | exact ng4 (by with_reducible assumption) | exact nl5 (by with_reducible assumption) | exact ng5 (by with_reducible assumption) | exact nl6 (by with_reducible assumption) | exact ng6 (by with_reducible assumption) | exact nl7 (by with_reducible assumption) | exact ng7 (by with_reducible assumption) | exact nl8 (by with_reducible assumption) | exact ng8 (by with_reducible assumption) | exact nl9 (by with_reducible assumption) | exact ng9 (by with_reducible assumption) | omega))
  k_with "k_mem" => (first | exact List.Mem.head _ | (with_reducible assumption) | exact (show _ ∈ _ from by with_reducible assumption) | exact List.mem_append_right _ (by with_reducible assumption) | (refine' List.Mem.tail _ ?_; k_mem))
  k_with "subscriptTail Subscript Name Name Constant ref int" => (k_here; k_dflt (refine' item_tupleT (by exact News.isTup (by k_asm) (by k_mem)) (by decide) (by decide) (by exact rfl) (by exact rfl) ?_))
  k_with "call ref" => (k_here; (with_reducible show wpAny _ _ (call (Value.ref 270) [Value.int _ _]) _ _ _); k_dflt (refine' tellV_use (s_islnk _ _ _ _ _ _ _ (by with_reducible assumption) (by with_reducible assumption)) (by k_asm) (by k_asm) (by k_asm) (by k_asm) (by k_asm) (by first | exact rfl | assumption) (by ktr_room) (by ktr_units) ?_); intro h9 tk9 F9 N9; (try dsimp only); (try k_fold))
  k_with "call ref" => (k_here; (with_reducible show wpAny _ _ (call (Value.ref 136) [Value.str _ _]) _ _ _); k_dflt (refine' tellS_use (normpath_c _ _ _ _ _ _ _ (by with_reducible assumption) (by with_reducible assumption) (by with_reducible assumption) (by with_reducible assumption) (by with_reducible assumption) (by with_reducible assumption) (by with_reducible assumption)) (by k_asm) (by k_asm) (by k_asm) (by k_asm) (by k_asm) (by first | exact rfl | assumption) (by ktr_room) (by ktr_units) ?_); intro t9 h9 tk9 F9 N9; (try dsimp only); (try k_fold))
  k_with "call ref" => (k_here; (with_reducible show wpAny _ _ (call (Value.ref 115) [Value.str _ _, Value.str _ _]) _ _ _); k_dflt (refine' tellS_use (join_c _ _ _ _ _ _ _ _ _ (by with_reducible assumption) (by with_reducible assumption)) (by k_asm) (by k_asm) (by k_asm) (by k_asm) (by k_asm) (by first | exact rfl | assumption) (by ktr_room) (by ktr_units) ?_); intro t9 h9 tk9 F9 N9; (try dsimp only); (try k_fold))
  k_with "exec For Name Tuple cons nil" => (k_here; (rename Fr _ _ _ _ => lF'); (with_unfolding_all refine' For_invVF lF' (by exact rfl) (by exact rfl) ?_; k_whole))
  k_with "exec For Name Name cons nil" => (k_here; (rename Fr _ _ _ _ => lF'); (with_unfolding_all refine' For_invVF lF' (by exact rfl) (by exact rfl) ?_; k_whole))
  k_with "call ref" => (k_here; (with_reducible show wpAny _ _ (call (Value.ref 207) _) _ _ _); refine Held.mk ?_)
  k_with "call ref" => (k_here; (with_reducible show wpAny _ _ (call (Value.ref 221) _) _ _ _); refine Held.mk ?_)
  k_with "call ref" => (k_here; (with_reducible show wpAny _ _ (call (Value.ref 202) _) _ _ _); refine Held.mk ?_)
  k_with "exec Try" => (k_here; refine Held.mk ?_)
  trivial

noncomputable def es0 : List (Str × Str) := [(sV, dirF sV), (sU, dirF sU)]
inductive JFold (w : World) (S : Srt) (tl : Led) (m₀ : Str → Option Value) (i : Nat) (m : Str → Option Value) (n : Led) : Prop
  | mk (od' : _)
    (l : _)
    (u : _)
    (hz0 : GS w { S with od := od', infos := l } (es0.take i))
    (hz1 : m = (fun y => if y = Str.ofString "folder" then u else m₀ y))
    (hz2 : n = ({ S with od := od', infos := l } : Srt).led w tl)
    (hz3 : ND n)
/-- the loop over the files -/
inductive JFil (w : World) (S : Srt) (fis : List FI) (ld : Addr) (ce : Addr × Obj) (rest : Led) (m₀ : Str → Option Value) (i : Nat) (m : Str → Option Value) (n : Led) : Prop
  | mk (od' : _)
    (l : _)
    (ol : _)
    (lds : _)
    (u : _)
    (hz0 : GS w { S with od := od', infos := l } (edgesOf dirF (filsOf (fis.take i))))
    (hz1 : ol.IsDictOf (strKind PySem.Challenge.rw_pd0160_01.row.prog w) lds)
    (hz2 : LeadsAre lds (filsOf (fis.take i)))
    (hz3 : m = (fun y => if y = Str.ofString "path" then u else m₀ y))
    (hz4 : n = (ld, ol) :: ce :: ({ S with od := od', infos := l } : Srt).led w rest)
    (hz5 : ND n)
theorem map_one {m₀ : Str → Option Value} {a : Str} : m₀ = fun y => if y = a then m₀ a else m₀ y := by
  funext y
  by_cases h1 : y = a
  · rw [if_pos h1, h1]
  · rw [if_neg h1]
theorem nd_lt {p : Addr × Obj} {l : Led} (h : ∀ q ∈ l, q.1 < p.1) (hn : ND l) : ND (p :: l) := nd_cons.mpr ⟨fun q hq => Nat.ne_of_lt (h q hq), hn⟩
theorem sort_start {w : World} {self sd d c D1 d1 : Addr} {k1 k2 k3 k4 t1 t2 : Tok} {o o1 o2 oc : Obj} {news : Led} {h₀ h : Heap} {L L' : Addr} (hd : o.IsDictOf (strKind PySem.Challenge.rw_pd0160_01.row.prog w) []) (lo : (d == sysModules) = false)
    (N : News h₀ L h ((D1, o1) :: (d1, o2) :: (d, o) :: (self, instObj 252 sd) :: (sd, dictOf [⟨PyData.keyHash w.params (Str.ofString "_node2info"), .str (Str.ofString "_node2info") k1, .ref d⟩, ⟨PyData.keyHash w.params (Str.ofString "_ready_nodes"), .str (Str.ofString "_ready_nodes") k2, .none⟩, ⟨PyData.keyHash w.params (Str.ofString "_npassedout"), .str (Str.ofString "_npassedout") k3, .int 0 t1⟩, ⟨PyData.keyHash w.params (Str.ofString "_nfinished"), .str (Str.ofString "_nfinished") k4, .int 0 t2⟩] 4) :: (c, oc) :: news))
    (l0 : ∀ p ∈ news, p.1 < L') (hc : c = L' + 1) (e1 : c < sd ∧ AllLt sd news) (e2 : sd < self) (e3 : self < d ∧ sd < d ∧ c < d ∧ AllLt d news) (e4 : d < d1 ∧ self < d1 ∧ sd < d1 ∧ c < d1 ∧ AllLt d1 news) (e5 : d1 < D1 ∧ d < D1 ∧ self < D1 ∧ sd < D1 ∧ c < D1 ∧ AllLt D1 news) (hn : ND news) :
    ∃ S : Srt, S.self = self ∧ GS w S [] ∧ S.npo = .int 0 t1 ∧ S.nfi = .int 0 t2 ∧ News h₀ L h (S.led w ((D1, o1) :: (d1, o2) :: (c, oc) :: news)) ∧ ND (S.led w ((D1, o1) :: (d1, o2) :: (c, oc) :: news)) := by
  have hlc : ∀ p ∈ news, p.1 < c := fun p hp => by rw [hc]; exact Nat.lt_succ_of_lt (l0 p hp)
  have hnd : ND ((D1, o1) :: (d1, o2) :: (d, o) :: (self, instObj 252 sd) :: (sd, dictOf [⟨PyData.keyHash w.params (Str.ofString "_node2info"), .str (Str.ofString "_node2info") k1, .ref d⟩, ⟨PyData.keyHash w.params (Str.ofString "_ready_nodes"), .str (Str.ofString "_ready_nodes") k2, .none⟩, ⟨PyData.keyHash w.params (Str.ofString "_npassedout"), .str (Str.ofString "_npassedout") k3, .int 0 t1⟩, ⟨PyData.keyHash w.params (Str.ofString "_nfinished"), .str (Str.ofString "_nfinished") k4, .int 0 t2⟩] 4) :: (c, oc) :: news) := by
    refine nd_lt ?_ (nd_lt ?_ (nd_lt ?_ (nd_lt ?_ (nd_lt ?_ (nd_lt hlc hn)))))
    · simp only [List.forall_mem_cons]; exact ⟨e5.1, e5.2.1, e5.2.2.1, e5.2.2.2.1, e5.2.2.2.2.1, ktn_ltOf e5.2.2.2.2.2⟩
    · simp only [List.forall_mem_cons]; exact ⟨e4.1, e4.2.1, e4.2.2.1, e4.2.2.2.1, ktn_ltOf e4.2.2.2.2⟩
    · simp only [List.forall_mem_cons]; exact ⟨e3.1, e3.2.1, e3.2.2.1, ktn_ltOf e3.2.2.2⟩
    · simp only [List.forall_mem_cons]; exact ⟨e2, Nat.lt_trans e1.1 e2, fun p hp => Nat.lt_trans (hlc p hp) (Nat.lt_trans e1.1 e2)⟩
    · simp only [List.forall_mem_cons]; exact ⟨e1.1, ktn_ltOf e1.2⟩
  have hperm : ∀ (a b x y z e : Addr × Obj) (r : Led), (a :: b :: z :: y :: x :: e :: r).Perm (y :: x :: z :: a :: b :: e :: r) := fun a b x y z e r => by
    have h1 : (a :: b :: z :: y :: x :: e :: r).Perm (z :: a :: b :: y :: x :: e :: r) := (rot3 a b z _)
    have h2 : (z :: a :: b :: y :: x :: e :: r).Perm (z :: y :: a :: b :: x :: e :: r) := .cons z (rot3 a b y _)
    have h3 : (z :: y :: a :: b :: x :: e :: r).Perm (z :: y :: x :: a :: b :: e :: r) := .cons z (.cons y (rot3 a b x _))
    have h4 : (z :: y :: x :: a :: b :: e :: r).Perm (y :: x :: z :: a :: b :: e :: r) := (rot3 y x z _).symm
    exact h1.trans (h2.trans (h3.trans h4))
  have hp := hperm (D1, o1) (d1, o2) (sd, dictOf [⟨PyData.keyHash w.params (Str.ofString "_node2info"), .str (Str.ofString "_node2info") k1, .ref d⟩, ⟨PyData.keyHash w.params (Str.ofString "_ready_nodes"), .str (Str.ofString "_ready_nodes") k2, .none⟩, ⟨PyData.keyHash w.params (Str.ofString "_npassedout"), .str (Str.ofString "_npassedout") k3, .int 0 t1⟩, ⟨PyData.keyHash w.params (Str.ofString "_nfinished"), .str (Str.ofString "_nfinished") k4, .int 0 t2⟩] 4) (self, instObj 252 sd) (d, o) (c, oc) news
  exact ⟨⟨self, sd, d, k1, k2, k3, k4, .none, .int 0 t1, .int 0 t2, o, []⟩, rfl, ⟨⟨hd, lo, by simp⟩, rfl, rfl, fun y => rfl, fun y => rfl⟩, rfl, rfl, cb_drop N (fun q hq => hp.symm.subset hq), ND.perm hnd hp⟩
section
variable {prog : Program} {w : World} {A : Around} {E : Value → Shared → Prop} {s : Shared} {env : Env} {h₀ : Heap} {body : List Stmt} {Q : Flow → Shared → Prop}
theorem iterFold {S : Srt} {D1 : Addr} {t1 t2 : Tok} {rest : Led} {m₀ : Str → Option Value} (hh : A.handled = none) (F : Fr h₀ env.locals s.heap m₀) (N : News h₀ env.locals s.heap (S.led w ((D1, { cls := .type "tuple", data := .seq #[.str sV t1, .str sU t2] }) :: rest))) (hG : GS w S []) (hnd : ND (S.led w ((D1, { cls := .type "tuple", data := .seq #[.str sV t1, .str sU t2] }) :: rest)))
    (turn : TurnOf prog w A E s env h₀ (Str.ofString "folder") body Q 2 (fun i v => ([.str sV t1, .str sU t2] : List Value)[i]? = some v) (JFold w S ((D1, { cls := .type "tuple", data := .seq #[.str sV t1, .str sU t2] }) :: rest) m₀))
    (done : DoneOf s env h₀ Q 2 (JFold w S ((D1, { cls := .type "tuple", data := .seq #[.str sV t1, .str sU t2] }) :: rest) m₀)) :
    wpAny (model prog w) A (pyIter (.ref D1)) (fun it s₂ => LoopAtV prog w A h₀ env (Str.ofString "folder") body Q E it s₂) E s := by
  refine iterTupleM (lo := { cls := .type "tuple", data := .seq #[.str sV t1, .str sU t2] }) (vs := [.str sV t1, .str sU t2]) (JFold w S ((D1, { cls := .type "tuple", data := .seq #[.str sV t1, .str sU t2] }) :: rest)) hh F N (by simp) rfl rfl ⟨S.od, S.infos, _, hG, map_one, rfl, hnd⟩ ?_ turn done
  intro i m n hp93
  refine Classical.byContradiction fun hn9 => ?_
  obtain ⟨od', l, u, _, rfl, rfl, _⟩ := hp93
  refine hn9 ?_
  clear hn9
  simp
end
theorem pull_perm {w : World} {S : Srt} {a b : Addr × Obj} {tl : Led} : (S.led w (a :: b :: tl)).Perm (b :: S.led w (a :: tl)) :=
  (led_tl w S [a, b] tl).trans ((List.Perm.swap b a _).trans (.cons b (led_tl w S [a] tl).symm))
theorem pull2 {w : World} {S : Srt} {a b : Addr × Obj} {tl : Led} (h : ND (S.led w (a :: b :: tl))) : ND (b :: S.led w (a :: tl)) := ND.perm h pull_perm
theorem pull2N {w : World} {S : Srt} {a b : Addr × Obj} {tl : Led} {h₀ h : Heap} {L : Addr} (N : News h₀ L h (S.led w (a :: b :: tl))) : News h₀ L h (b :: S.led w (a :: tl)) := cb_drop N fun _ hq => pull_perm.symm.subset hq
theorem FilesAt.more {w : World} {d : Addr} {od : Obj} {l : List FI} {n n' : Led} (h : FilesAt w d od l n) (hs : ∀ p ∈ n, p ∈ n') : FilesAt w d od l n' := ⟨hs _ h.mem, h.dict, fun i hi => hs _ (h.tup i hi), h.low⟩
theorem nd_set2 {a : Addr × Obj} {d : Addr} {o : Obj} {l : Led} (h : ND (a :: (d, o) :: l)) (o' : Obj) : ND (a :: (d, o') :: l) := nd_keys h rfl
section
variable {w : World} {A : Around} {E : Value → Shared → Prop} {s : Shared} {env : Env} {h₀ : Heap} {body : List Stmt} {Q : Flow → Shared → Prop}
theorem es0_eq : es0.take 2 = edgesOf dirF (filsOf []) := by decide +kernel
theorem iterFil {S : Srt} {fis : List FI} {d ld : Addr} {od ol od' : Obj} {l : List Info} {ce : Addr × Obj} {rest : Led} {m₀ : Str → Option Value} (hh : A.handled = none) (F : Fr h₀ env.locals s.heap m₀) (N : News h₀ env.locals s.heap ((ld, ol) :: ce :: ({ S with od := od', infos := l } : Srt).led w rest)) (hG : GS w { S with od := od', infos := l } (es0.take 2))
    (hnd : ND ((ld, ol) :: ce :: ({ S with od := od', infos := l } : Srt).led w rest)) (hol : ol.IsDictOf (strKind PySem.Challenge.rw_pd0160_01.row.prog w) []) (hF : FilesAt w d od fis rest)
    (turn : TurnOf PySem.Challenge.rw_pd0160_01.row.prog w A E s env h₀ (Str.ofString "path") body Q fis.length (fun i v => ∃ fi t, fis[i]? = some fi ∧ v = .str fi.f.name t) (JFil w S fis ld ce rest m₀))
    (done : DoneOf s env h₀ Q fis.length (JFil w S fis ld ce rest m₀)) :
    wpAny (model PySem.Challenge.rw_pd0160_01.row.prog w) A (pyIter (.ref d)) (fun it s₂ => LoopAtV PySem.Challenge.rw_pd0160_01.row.prog w A h₀ env (Str.ofString "path") body Q E it s₂) E s := by
  have hl : (fis.map FI.kv).length = fis.length := by simp
  rw [es0_eq] at hG
  refine iterKeys (kvs := fis.map FI.kv) (JFil w S fis ld ce rest m₀) hh F N ?_ hF.dict hF.low ⟨od', l, ol, [], _, hG, hol, .nil, map_one, rfl, hnd⟩ ?_ ?_ (hl ▸ done)
  · have := hF.mem; simp [this]
  · intro i m n hp93
    refine Classical.byContradiction fun hn9 => ?_
    obtain ⟨od2, l2, ol2, lds, u, _, _, _, rfl, rfl, _⟩ := hp93
    refine hn9 ?_
    clear hn9
    have := hF.mem; simp [this]
  · intro i v m₁ news₁ h tk I io hi hP hJ hn F₁ N₁
    refine Classical.byContradiction fun hn9 => ?_
    obtain ⟨k, u, t, hk, rfl⟩ := hP
    refine hn9 ?_
    clear hn9
    refine turn i _ m₁ news₁ h tk I io (by rw [← hl]; exact hi) ?_ hJ hn F₁ N₁
    rw [List.getElem?_map] at hk
    cases q : fis[i]? with
    | none => rw [q] at hk; cases hk
    | some fi => rw [q] at hk; cases hk; exact ⟨fi, t, rfl, rfl⟩
theorem pack_rest {S : Srt} {a b c : Addr × Obj} {news : Led} {h : Heap} {L d : Addr} {od : Obj} {fis : List FI} (N : News h₀ L h (S.led w (a :: b :: c :: news))) (hnd : ND (S.led w (a :: b :: c :: news))) (hF : FilesAt w d od fis news) :
    ∃ rest, FilesAt w d od fis rest ∧ (∀ p ∈ news, p ∈ rest) ∧ News h₀ L h (b :: c :: S.led w rest) ∧ ND (b :: c :: S.led w rest) := by
  have hp : (S.led w (a :: b :: c :: news)).Perm (b :: c :: S.led w (a :: news)) :=
    (pull_perm (tl := c :: news)).trans (.cons b pull_perm)
  exact ⟨a :: news, hF.more fun p hp => .tail _ hp, fun p hp => .tail _ hp, cb_drop N fun q hq => hp.symm.subset hq, ND.perm hnd hp⟩
end
theorem lines_Rn2 : True := by
  k_with "call ref" => (k_here; (with_reducible show wpAny _ _ (call (Value.ref 214) _) _ _ _); refine Held.mk ?_)
  k_with "call ref" => (k_here; (with_reducible show wpAny _ _ (call (Value.ref 235) _) _ _ _); refine Held.mk ?_)
  k_with "eval ListComp" => (k_here; k_dflt (refine ListComp_GU (F₀ := by k_asm) (by with_unfolding_all rfl) (by decide) (by rfl) (by decide) (by rfl) ?_))
  k_with "exec For Name Call cons nil" => (k_here; (rename Fr _ _ _ _ => lF'); (with_unfolding_all refine' For_invVF lF' (by exact rfl) (by exact rfl) ?_; k_whole))
  k_with "call ref" => (k_here; (with_reducible show wpAny _ _ (call (Value.ref 310) [Value.int _ _]) _ _ _); k_dflt (refine' tellS_use (filemode_c _ _ _ _ _ _ _ (by with_reducible assumption) (by with_reducible assumption)) (by k_asm) (by k_asm) (by k_asm) (by k_asm) (by k_asm) (by first | exact rfl | assumption) (by ktr_room) (by ktr_units) ?_); intro t9 h9 tk9 F9 N9; (try dsimp only); (try k_fold))
  k_with "compareOp In str ref" => (k_here; k_dflt (first | (refine' in_yes (by k_asm) (by k_mem) (by assumption) (by assumption) (by with_reducible assumption) ?_) | (refine' in_no (by k_asm) (by k_mem) (by assumption) (by assumption) (by with_reducible assumption) ?_)); (try dsimp only))
  k_with "execs cons" => (k_here; (have htk9 : TkOn := by assumption); clear htk9; (with_reducible show wpAny _ _ _ _ _ (Shared.mk _ _ _ (_ + _) _)); refine toks_all ?_; intro tk; (try dsimp only))
  k_with "execs nil" => (k_here; (have htk9 : TkOn := by assumption); clear htk9; (with_reducible show wpAny _ _ _ _ _ (Shared.mk _ _ _ (_ + _) _)); refine toks_all ?_; intro tk; (try dsimp only))
  k_with "call builtin:sorted" => (refine Held.mk ?_)
  k_with "exec While" => (refine Held.mk ?_)
  trivial

inductive MidRun (w : World) (mean : ExcName → Option Value) (mg mb : Str → Option Value) (A : Around) (base g' : Heap) (outer : List Env) (L' : Addr) (S : Srt) (rest : Led) (p q : Addr × Obj) (s : Shared) (m₀ : Str → Option Value) (f : Flow) (s' : Shared) : Prop
  | mk (hz0 : f = .next)
    (g2 : _)
    (h2 : _)
    (tk2 : _)
    (rb : _)
    (D : _)
    (c : _)
    (hz1 : s' = { s with heap := h2, toks := tk2 })
    (hz2 : KtsTurn (outer.filterMap (·.frame)) g' g2)
    (hz3 : Fr g2 L' h2 (fun y => if y = Str.ofString "ring" then some (.bool rb) else m₀ y))
    (hz4 : News g2 L' h2 (p :: q :: ({ S with rv := .ref D } : Srt).led w ((D, W.listOf (strValues (readyOf S.infos)).toArray c) :: rest)))
    (hz5 : ND (p :: q :: ({ S with rv := .ref D } : Srt).led w ((D, W.listOf (strValues (readyOf S.infos)).toArray c) :: rest)))
    (hz6 : (rb = true ↔ HasRing (ssL S.infos)))
    (hz7 : Below A base outer g2)
    (hz8 : (hd.heap_39 w.params).In g2)
    (hz9 : Top hd.view_39 (looseW hd.view_39 [Str.ofString "_NodeInfo", Str.ofString "_filemode_table"]) mean mg mb g2)
    (hz10 : KtsDicts (outer.filterMap (·.frame)) g2)
theorem cutR {M : Model} {A : Around} {E : Value → Shared → Prop} {s : Shared} {t : Sem Flow} {Q : Flow → Shared → Prop} {g' : Heap} {L' : Addr} {x : Str} {u : Option Value} {m₀ : Str → Option Value} {p q : Addr × Obj} {nw : Led} (F : Fr g' L' s.heap (fun y => if y = x then u else m₀ y)) (_N : News g' L' s.heap (p :: q :: nw)) (Mid : (Addr × Obj) → (Addr × Obj) → Shared → (Str → Option Value) → Flow → Shared → Prop)
    (h1 : wpAny M A t (Mid p q s m₀) E s) (h2 : ∀ f s', Mid p q s m₀ f s' → Q f s') : wpAny M A t Q E s := wpAny_mono h1 h2 fun _ _ e => e
theorem prep2 {w : World} {S : Srt} {p q x : Addr × Obj} {rest : Led} : (S.led w (x :: p :: q :: rest)).Perm (p :: q :: S.led w (x :: rest)) :=
  (led_tl w S [x, p, q] rest).trans ((List.Perm.swap p x _).trans (.cons p ((List.Perm.swap q x _).trans (.cons q (led_tl w S [x] rest).symm))))
set_option pp.maxSteps 3000 in
theorem law_run_c (w : World) (mean : ExcName → Option Value) (mg mb : Str → Option Value) (news : Led) (d : Addr) (od : Obj) (fis : List FI) (hF : FilesAt w d od fis news) (hN : ND news) (hW : WF (filsOf fis)) :
    TellG w mean mg mb 10 80 320 [.ref d] news (fun v n' => (∃ rb l, Spec (filsOf fis) rb l ∧ DatIn n' v (resD rb l)) ∧ ∀ p ∈ news, p ∈ n') (fun _ => False) := by
  unfold TellG
  k_fill
  intro dp un gd cn cs a ccd cl outer A₀ base h₀ L m
  intro s Q E B F X N T XB TB D hk hdp hun hret hexc
  refine wpAny_call ?_
  k_dflt (refine' enterCK (ce := envX cn cs L a ccd cl) rfl hk B F X N T XB TB D ?kA ?k6 ?k7 ?k8 ?k9 ?kB ?kD ?_ ?c2 ?c3 ?c4; (case kA => exact rfl); (case k6 => k_is); (case k7 => k_is); (case k8 => ktr_room); (case k9 => exact BindsTo.of_eq rfl); (case kB => exact rfl); (case kD => decide +kernel); (case c2 => exact rfl); (case c3 => exact rfl); (case c4 => exact rfl); k_whole; intro g' L' h' tk' cells' FG' F' N' Y' l1 B' X' T' D'; (try k_lt l1); k_cells Y'; (try simp only [List.cons_append, List.nil_append] at N'); (try dsimp only); (try k_lift B'); (try k_fold))
  refine wpAny_noRaise ?_
  have F91 : Fr g' L' h' (fun y => if y = Str.ofString "files" then some (.ref d) else none) := F'
  clear F'
  k_steps
  refine Held.of ?_
  rename Fr _ _ _ _ => F2
  rename News _ _ _ _ => N2
  rename_i d1 h1 o1 lo1 hs1 fs1 hi1 fi1 h2 h3 D1 h4 l1
  rename ∀ p : Addr × Obj, p ∈ news → p.1 < _ => l0
  rename _ < _ ∧ AllLt _ news => e1
  rename _ < _ ∧ _ < _ ∧ _ < _ ∧ AllLt _ news => e3
  rename Obj.IsDictOf _ _ [] => hs2
  rename _ < _ => e2
  refine Classical.byContradiction fun hn9 => ?_
  obtain ⟨S, hself, hG0, hnpo, hnfi, N3, hnd3⟩ := sort_start (by assumption) (by assumption) N2 l0 rfl e1 e2 e3 h2 l1 hN
  refine hn9 ?_
  clear hn9
  clear N2 l0 e1 e2 e3 h2 l1
  subst hself
  k_dflt (refine iterFold rfl F2 N3 hG0 hnd3 ?turn ?done)
  case turn =>
    intro i v m₁ news₁ h tk I io hi hP hp910 hne F₁ N₁
    refine Classical.byContradiction fun hn9 => ?_
    obtain ⟨od', l, u, hG, rfl, rfl, hnd⟩ := hp910
    refine hn9 ?_
    clear hn9
    clear F2 N3 hnd3
    rw [ifif] at F₁
    obtain ⟨x, tx, rfl, hx, hxl⟩ : ∃ x tx, v = .str x tx ∧ es0[i]? = some (x, dirF x) ∧ x.length ≤ 4096 := by
      have hi2 : i = 0 ∨ i = 1 := by omega
      rcases hi2 with rfl | rfl
      · simp at hP; exact ⟨_, _, hP.symm, rfl, by decide⟩
      · simp at hP; exact ⟨_, _, hP.symm, rfl, by decide⟩
    have hnd4 := (nd_cons (p := (I, io))).mpr ⟨hne, hnd⟩
    k_steps
    refine Held.of ?_
    k_dflt (refine' tell_use (add_step w mean mg mb [(I, io)] { S with od := od', infos := l } (es0.take i) x (dirF x) _ _ _ hG (by rw [List.length_take]; have : es0.length = 2 := rfl; omega) hnd4) ?Bu1 ?Fu1 ?Xu1 ?Nu1 ?Tu1 ?hku1 ?hdu1 ?huu1 ?_)
    case Bu1 => k_asm
    case Fu1 => k_asm
    case Xu1 => k_asm
    case Tu1 => k_asm
    case hku1 => first | exact rfl | assumption
    case hdu1 => ktr_room
    case huu1 => ktr_units
    case Nu1 => first | k_asm | assumption | exact cb_drop (by k_asm) (fun q hq => .tail _ (.tail _ hq))
    intro v9 n9 h9 tk9 hp94 F9 N9
    refine Classical.byContradiction fun hn9 => ?_
    obtain ⟨rfl, od2, l2, rfl, hnd5, hG5⟩ := hp94
    refine hn9 ?_
    clear hn9
    clear F₁ N₁
    (try dsimp only)
    k_steps
    rename Fr _ _ _ _ => F8
    rename News _ _ _ _ => N8
    have e6 : es0.take (i + 1) = es0.take i ++ [(x, dirF x)] := by rw [List.take_add_one, hx]; rfl
    rw [← e6] at hG5
    exact TurnEnd.fin (.inl rfl) F8 N8 (nd_cons.mp hnd5).1 ⟨od2, l2, _, hG5, rfl, rfl, (nd_cons.mp hnd5).2⟩
  case done =>
    intro m₁ news₁ h tk hp94 F₁ N₁
    refine Classical.byContradiction fun hn9 => ?_
    obtain ⟨od', l, u, hG, rfl, rfl, hnd⟩ := hp94
    refine hn9 ?_
    clear hn9
    clear F2 N3 hnd3
    k_steps
    refine Held.of ?_
    rename Fr _ _ _ _ => F2
    rename News _ _ _ _ => N2
    refine Classical.byContradiction fun hn9 => ?_
    obtain ⟨rest, hF2, hsubN, N3, hnd2⟩ := pack_rest N2 hnd hF
    refine hn9 ?_
    clear hn9
    clear N2 hnd
    k_dflt (refine iterFil rfl F2 N3 hG hnd2 (by assumption) hF2 ?turn2 ?done2)
    case turn2 =>
      intro i v m₁ news₁ h tk I io hi hp99 hp910 hne F₁ N₁
      refine Classical.byContradiction fun hn9 => ?_
      obtain ⟨fi, tx, hfi, rfl⟩ := hp99
      obtain ⟨od', l, ol, lds, u, hG, hol, hLe, rfl, rfl, hnd⟩ := hp910
      refine hn9 ?_
      clear hn9
      clear F2 N3 hnd2
      rw [ifif] at F₁
      have hfm : fi ∈ fis := List.mem_of_getElem? hfi
      have hff : fi.f ∈ filsOf fis := List.mem_map_of_mem hfm
      have hxl : fi.f.name.length ≤ 4096 := Nat.le_trans (hW.nlen _ hff).1 (by decide)
      have htl : fi.f.text.length ≤ 4096 := Nat.le_trans (hW.nlen _ hff).2.1 (by decide)
      have hdl : (dirF fi.f.name).length ≤ 4096 := by rcases hW.gf.dir _ hff with q | q | q <;> rw [q] <;> decide
      have hoff := take_off hW.gf.nd hfi
      have hvn := leads_off hLe hoff
      have hvd := fi_val hF2 hfm
      have hod := hF2.dict
      have hlds : lds.length ≤ 10 := by
        have h1 := leads_len hLe
        have h2 := hW.len
        unfold filsOf at h1 h2
        rw [List.length_map] at h1 h2
        rw [List.length_take] at h1
        omega
      have hes : (edgesOf dirF (filsOf (fis.take i))).length ≤ 100 := by
        have h1 := edges_len dirF (filsOf (fis.take i))
        have h2 := hW.len
        unfold filsOf at h1 h2 ⊢
        rw [List.length_map] at h1 h2
        rw [List.length_take] at h1
        omega
      have hnd4 := (nd_cons (p := (I, io))).mpr ⟨hne, hnd⟩
      k_steps
      refine Held.of ?_
      k_dflt (refine' tell_use (add_step w mean mg mb [(I, io), (d1, ol), _] { S with od := od', infos := l } _ fi.f.name (dirF fi.f.name) _ _ _ hG (Nat.le_trans hes (by decide)) hnd4) ?Bu2 ?Fu2 ?Xu2 ?Nu2 ?Tu2 ?hku2 ?hdu2 ?huu2 ?_)
      case Bu2 => k_asm
      case Fu2 => k_asm
      case Xu2 => k_asm
      case Tu2 => k_asm
      case hku2 => first | exact rfl | assumption
      case hdu2 => ktr_room
      case huu2 => ktr_units
      case Nu2 => first | k_asm | assumption | exact cb_drop (by k_asm) (fun q hq => .tail _ (.tail _ hq))
      intro v9 n9 h9 tk9 hp94 F9 N9
      refine Classical.byContradiction fun hn9 => ?_
      obtain ⟨rfl, od2, l2, rfl, hnd5, hG5⟩ := hp94
      refine hn9 ?_
      clear hn9
      clear F₁ N₁
      (try dsimp only)
      have hnd6 := hnd5
      k_dflt (refine nd_out6 hnd6 ?_)
      intro e01 e02 e03 e04 e05 eR0 e12 e13 e14 e15 eR1 e23 e24 e25 eR2 e34 e35 eR3 e45 eR4 eR5 eE
      clear hnd6
      have g1 : d ≠ d1 := eR1 _ (List.mem_append_right _ hF2.mem)
      have g2 : fi.ta ≠ d1 := eR1 _ (List.mem_append_right _ (hF2.tup fi hfm))
      have N10 := news_dup (news_dup N9 (p := (fi.ta, { cls := .type "tuple", data := .seq #[.int fi.f.mode fi.tm, .str fi.f.text fi.tt, .str fi.f.goal fi.tg] })) (by have := hF2.tup fi hfm; unfold FI.obj at this; simp [this])) (p := (d, od)) (by have := hF2.mem; simp [this])
      clear N9
      dsimp only [Srt.led, List.cons_append, List.nil_append] at N10
      by_cases hg : fi.f.goal = sE
      · have hpl := hW.plain _ hff hg
        have m0 : 0 ≤ fi.f.mode := by omega
        have m1 : fi.f.mode < 65536 := by omega
        have hb : (Builtin.bitAnd fi.f.mode 61440 == 40960) = false := plain_bit hpl
        k_steps
        rename Fr _ _ _ _ => F8
        rename News _ _ _ _ => N8
        have e7 : edgesOf dirF (filsOf (fis.take (i + 1))) = edgesOf dirF (filsOf (fis.take i)) ++ [(fi.f.name, dirF fi.f.name)] := by rw [take_snocF hfi, edges_snoc, if_pos hg]
        rw [← e7] at hG5
        have hLe2 : LeadsAre lds (filsOf (fis.take (i + 1))) := by rw [take_snocF hfi]; exact .plain hLe hg
        exact TurnEnd.fin (.inl rfl) F8 (cb_drop N8 (fun q hq => .tail _ (.tail _ hq))) (nd_cons.mp hnd5).1 ⟨od2, l2, ol, lds, _, hG5, hol, hLe2, rfl, rfl, (nd_cons.mp hnd5).2⟩
      · refine Classical.byContradiction fun hn9 => ?_
        obtain ⟨hmode, hnorm⟩ := hW.link _ hff hg
        refine hn9 ?_
        clear hn9
        have m0 : 0 ≤ fi.f.mode := by omega
        have m1 : fi.f.mode < 65536 := by omega
        have hb : (Builtin.bitAnd fi.f.mode 61440 == 40960) = true := by rw [hmode]; decide +kernel
        refine Classical.byContradiction fun hn9 => ?_
        obtain ⟨j1, j2, j3, j4, j5, j6, j7⟩ := hW.norm _ hff hg _ rfl
        refine hn9 ?_
        clear hn9
        k_steps
        refine Held.of ?_
        rename Obj.IsDictOf _ _ (stored _ _ _) => hol2
        rw [stored_new hvn] at hol2
        rw [hnorm] at hol2 ⊢
        k_dflt (refine' tell_use (add_step w mean mg mb [(I, io), (d1, _), _] { S with od := od2, infos := l2 } _ fi.f.name fi.f.goal _ _ _ hG5 (by rw [List.length_append]; exact Nat.le_trans (Nat.add_le_add hes (Nat.le_refl 1)) (by decide)) (nd_set2 hnd5 _)) ?Bu3 ?Fu3 ?Xu3 ?Nu3 ?Tu3 ?hku3 ?hdu3 ?huu3 ?_)
        case Bu3 => k_asm
        case Fu3 => k_asm
        case Xu3 => k_asm
        case Tu3 => k_asm
        case hku3 => first | exact rfl | assumption
        case hdu3 => ktr_room
        case huu3 => ktr_units
        case Nu3 => first | k_asm | assumption | exact cb_drop (by k_asm) (fun q hq => .tail _ (.tail _ hq))
        intro v8 n8 h8 tk8 hp94 F9 N9
        refine Classical.byContradiction fun hn9 => ?_
        obtain ⟨rfl, od3, l3, rfl, hnd7, hG7⟩ := hp94
        refine hn9 ?_
        clear hn9
        clear N10
        (try dsimp only)
        k_steps
        rename Fr _ _ _ _ => F8
        rename News _ _ _ _ => N8
        have e7 : edgesOf dirF (filsOf (fis.take (i + 1))) = edgesOf dirF (filsOf (fis.take i)) ++ [(fi.f.name, dirF fi.f.name)] ++ [(fi.f.name, fi.f.goal)] := by rw [take_snocF hfi, edges_snoc, if_neg hg]; simp
        rw [← e7] at hG7
        have hLe2 : ∀ t, LeadsAre (lds ++ [(fi.f.name, .str fi.f.goal t)]) (filsOf (fis.take (i + 1))) := fun t => by rw [take_snocF hfi]; exact .link t hLe hg
        exact TurnEnd.fin (.inl rfl) F8 N8 (nd_cons.mp hnd7).1 ⟨od3, l3, _, _, _, hG7, hol2, hLe2 _, rfl, rfl, (nd_cons.mp hnd7).2⟩
    case done2 =>
      intro m₁ news₁ h tk hp94 F₁ N₁
      refine Classical.byContradiction fun hn9 => ?_
      obtain ⟨od', l, ol, lds, u, hG, hol, hLe, rfl, rfl, hnd⟩ := hp94
      refine hn9 ?_
      clear hn9
      clear F2 N3 hnd2
      rw [List.take_of_length_le (Nat.le_refl _)] at hG hLe
      dsimp only [Srt.led] at N₁
      k_steps
      refine Held.of ?_
      rename Fr _ _ _ _ => F2
      rename News _ _ _ _ => N2
      rename Below _ _ _ _ => B2
      k_here
      refine cutR F2 N2 (MidRun w mean mg mb (ktrTop dp un gd cn cs L a ccd cl outer) base g' (envX cn cs L a ccd cl :: outer) L' { S with od := od', infos := l } rest) ?mid ?aft
      case mid =>
        have hp1 := fun q => led_tl w ({ S with od := od', infos := l } : Srt) [(d1, ol), q] rest
        have hE := edges_len dirF (filsOf fis)
        have hlen := hW.len
        have hl900 : ({ S with od := od', infos := l } : Srt).infos.length ≤ 900 := Nat.le_trans hG.len (by omega)
        have hcl : ∀ x y, y ∈ ssL ({ S with od := od', infos := l } : Srt).infos x → y ∈ nmL ({ S with od := od', infos := l } : Srt).infos := fun x y hy => by
          rw [hG.ss] at hy
          rw [hG.nm]
          exact namesOf_mem.mpr ⟨_, ssE_mem.mp hy, .inl rfl⟩
        refine wpAny_Try_except ?_
        k_steps
        refine Held.of ?_
        k_dflt (refine' tellG_use ((prep w mean mg mb { S with od := od', infos := l } ((d1, ol) :: (_, _) :: rest) hG.ok (ND.perm hnd (hp1 _).symm) hl900 hcl hG.rv).sub (fun q hq => (hp1 _).subset hq)) ?B ?F ?X ?N ?T ?XB ?TB ?KD ?hk ?hd ?hu ?ret ?exc)
        case B => k_asm
        case F => k_asm
        case X => k_asm
        case N => exact N2
        case T => k_asm
        case XB => assumption
        case TB => assumption
        case KD => assumption
        case hk => first | exact rfl | assumption
        case hd => ktr_room
        case hu => ktr_units
        case ret =>
          intro v n h7 tk7 g7 hp95 T7 F7 N7 B7 X7 P7 D7
          refine Classical.byContradiction fun hn9 => ?_
          obtain ⟨rfl, hnr, D9, c9, rfl, hnd7⟩ := hp95
          refine hn9 ?_
          clear hn9
          (try dsimp only)
          k_steps
          exact ⟨rfl, g7, _, _, false, D9, c9, rfl, T7, F7, cb_drop N7 (fun q hq => prep2.symm.subset hq), ND.perm hnd7 prep2, by simpa using hnr, B7, X7, P7, D7⟩
        case exc =>
          intro e t vs nE h7 tk7 G g7 hp98 T7 F7 B7 X7 P7 D7 R7 U7
          refine Classical.byContradiction fun hn9 => ?_
          obtain ⟨hr, D9, c9, hsub, hnd7⟩ := hp98
          refine hn9 ?_
          clear hn9
          (try dsimp only)
          k_dflt (refine' caughtX R7 F7 B7 U7 XB TB ?ex ?q ?k)
          case ex => first | k_is | exact rfl
          case q => first | k_is | exact rfl
          case k =>
            intro h8 g8 T8 F8 N8 B8
            clear F2 N2
            (try dsimp only)
            k_steps
            rename Fr _ _ _ _ => F9
            rename News _ _ _ _ => N9
            rw [ifif] at F9
            exact ⟨rfl, g8, _, _, true, D9, c9, rfl, T7.trans T8, F9, cb_drop N9 (fun q hq => hsub _ (prep2.symm.subset hq)), ND.perm hnd7 prep2, by simpa using hr, B8, XB.keeps B8.stays, TB.keeps B8.stays, D7.turn T8⟩
      case aft =>
        clear F2 N2
        intro f s2 hp92
        refine Classical.byContradiction fun hn9 => ?_
        obtain ⟨rfl, g2, h2, tk2, rb, D9, c9, rfl, T7, F7, N7, hnd7, hrb, B7, X7, P7, D7⟩ := hp92
        refine hn9 ?_
        clear hn9
        dsimp only [Srt.led] at N7
        have hnd8 := hnd7
        k_dflt (refine nd_out5 hnd8 ?_)
        intro e01 e02 e03 e04 eR0 e12 e13 e14 eR1 e23 e24 eR2 e34 eR3 eR4 eE
        clear hnd8
        k_steps
        refine Held.of ?_
        rename_i dE hh1 oE loE hdE fs1 hi1 fi1 lE hh2 oC F8 N8 dC
        clear fs1 hi1 fi1 hh1
        obtain ⟨zt1, hnpo'⟩ : ∃ t, S.npo = .int 0 t := ⟨_, hnpo⟩
        obtain ⟨zt2, hnfi'⟩ : ∃ t, S.nfi = .int 0 t := ⟨_, hnfi⟩
        rw [hnpo', hnfi'] at N8
        have hp9 : ((dE, oE) :: (d1, ol) :: (L' + 1, oC) :: (D9, W.listOf (strValues (readyOf l)).toArray c9) :: Srt.led w ⟨S.self, S.sd, S.d, S.k1, S.k2, S.k3, S.k4, .ref D9, .int 0 zt1, .int 0 zt2, od', l⟩ rest).Perm _ := .cons (dE, oE) (.cons (d1, ol) (.cons (L' + 1, oC) (led_tl w ⟨S.self, S.sd, S.d, S.k1, S.k2, S.k3, S.k4, .ref D9, .int 0 zt1, .int 0 zt2, od', l⟩ [(D9, W.listOf (strValues (readyOf l)).toArray c9)] rest).symm))
        have N9 := cb_drop N8 (fun q hq => hp9.subset hq)
        have hnd9 : ND ((dE, oE) :: (d1, ol) :: (L' + 1, oC) :: (D9, W.listOf (strValues (readyOf l)).toArray c9) :: Srt.led w ⟨S.self, S.sd, S.d, S.k1, S.k2, S.k3, S.k4, .ref D9, .int 0 zt1, .int 0 zt2, od', l⟩ rest) := by
          refine ND.perm (nd_lt ?_ ?_) hp9.symm
          · simp only [Srt.led, List.cons_append, List.nil_append, List.forall_mem_cons]
            exact ⟨lE.1, lE.2.1, lE.2.2.1, lE.2.2.2.1, lE.2.2.2.2.1, ktn_ltOf lE.2.2.2.2.2⟩
          · exact nd_keys hnd7 rfl
        have hnames : (namesOf (edgesOf dirF (filsOf fis))).length ≤ 60 := by
          have h1 := namesOf_len (edgesOf dirF (filsOf fis))
          have h2 := edges_len dirF (filsOf fis)
          have h3 := hW.len
          omega
        have hK0 : KI (edgesOf dirF (filsOf fis)) (namesOf (edgesOf dirF (filsOf fis))) [] [] ((readyOf l).map (·.1)) [] (npL l) := by
          rw [readyOf_names l (by have := hG.ok.nd; exact this), show nmL l = _ from hG.nm]
          exact ki_start (namesOf_nd _) hG.np
        clear N8 lE hp9
        k_dflt (refine While_N (JWh w (filsOf fis) (edgesOf dirF (filsOf fis)) S.self S.sd S.d D9 S.k1 S.k2 S.k3 S.k4 od' l dE (d1, ol) (L' + 1, oC) rest) (namesOf (edgesOf dirF (filsOf fis))).length F8 N9 ?init ?turnW)
        case init =>
          exact ⟨[], readyOf l, c9, l, 0, _, _, oE, [], rest, _, hK0, SameG.refl _, fun j hj => Nat.le_trans (hG.ssl j hj) (by have := edges_len dirF (filsOf fis); have := hW.len; omega), by simp, rfl, hdE, ⟨rfl, by simp, by simp⟩, fun p hp => hp, map_one, rfl, hnd9⟩
        case turnW =>
          intro n m₁ nw h₁ tk₁ F₁ N₁ hp97
          refine Classical.byContradiction fun hn9 => ?_
          obtain ⟨fin, rs, c, l', z, ta, tb, oE', ens, tl, u9, hK, hSG, hsl, rfl, hz, hoE, hEn, hsub, rfl, rfl, hnd⟩ := hp97
          refine hn9 ?_
          clear hn9
          clear F8 N9 hnd9
          dsimp only [Srt.led] at N₁
          have hfn : fin.Nodup := by have h1 := hK.nd; simp only [List.nil_append] at h1; rw [List.nodup_append] at h1; exact h1.1
          have hfl : fin.length ≤ 60 := Nat.le_trans (len_sub hfn (fun y hy => hK.sub y (by simp [hy]))) hnames
          have hrl : rs.length ≤ 100 := by have h1 := ki_ready_len hK; rw [List.length_map] at h1; omega
          have hOk' : Srt.Ok w ⟨S.self, S.sd, S.d, S.k1, S.k2, S.k3, S.k4, .ref D9, .int z ta, .int z tb, od', l'⟩ := Srt.Ok.same (by have := hG.ok; exact this) hSG
          k_steps
          refine Held.of ?_
          k_dflt (refine' tell_use (act_step w mean mg mb [(dE, oE'), (d1, ol), (L' + 1, oC)] S.self S.sd S.d D9 S.k1 S.k2 S.k3 S.k4 z ta tb od' l' rs c tl (by omega) (by omega)) ?Bu4 ?Fu4 ?Xu4 ?Nu4 ?Tu4 ?hku4 ?hdu4 ?huu4 ?_)
          case Bu4 => k_asm
          case Fu4 => k_asm
          case Xu4 => k_asm
          case Tu4 => k_asm
          case hku4 => first | exact rfl | assumption
          case hdu4 => ktr_room
          case huu4 => ktr_units
          case Nu4 => first | k_asm | assumption | exact cb_drop (by k_asm) (fun q hq => .tail _ (.tail _ hq))
          intro v9 n9 h9 tk9 hp94 F9 N9
          refine Classical.byContradiction fun hn9 => ?_
          obtain ⟨rfl, rfl⟩ := hp94
          refine hn9 ?_
          clear hn9
          clear F₁ N₁
          dsimp only [Srt.led, List.cons_append, List.nil_append] at N9
          rcases rs with _ | ⟨r0, rs'⟩
          · dsimp only [List.isEmpty, Bool.not_true]
            k_steps
            refine Held.of ?_
            rename Fr _ _ _ _ => F8
            rename News _ _ _ _ => N8
            have hel : (ens.map EN.kv).length ≤ 100 := by
              rw [List.length_map]
              have h1 := congrArg List.length hEn.keys
              rw [List.length_map] at h1
              omega
            k_dflt (refine srcKeysUM (fun L0 i ys nw => ∃ ps : List PE, ys = ps.map PE.ref ∧ ps.map (·.key) = (ens.take i).map (·.y) ∧ ps.map (·.v) = (ens.take i).map (·.a) ∧ (∀ p ∈ ps, p.obj ∈ nw) ∧ ∀ q ∈ L0, q ∈ nw) rfl F8 N8 loE (.head _) hoE (le_line hel) ⟨[], rfl, rfl, rfl, by simp, fun q hq => hq⟩ ?stepL ?finL)
            case stepL =>
              intro i v I oI C oC2 D m₂ h tk E' ys nw hi hp914 hp915 hns hmx F3 N3 hoff hne
              refine Classical.byContradiction fun hn9 => ?_
              obtain ⟨k, u2, hk, hkv⟩ := hp914
              obtain ⟨ps, rfl, hps1, hps2, hps3, hps4⟩ := hp915
              refine hn9 ?_
              clear hn9
              obtain ⟨n, hn9, tn, rfl⟩ : ∃ n, ens[i]? = some n ∧ ∃ t, v = .str n.y t := by
                rw [List.getElem?_map] at hk
                cases q : ens[i]? with
                | none => rw [q] at hk; cases hk
                | some n => rw [q] at hk; cases hk; exact ⟨n, rfl, str_of hkv⟩
              have hnm : n ∈ ens := List.mem_of_getElem? hn9
              have hv2 : valueAt (ens.map EN.kv) n.y = some (.ref n.a) := valueAt_of_mem (by rw [ens_keys, hEn.keys]; exact hfn) (List.mem_map.mpr ⟨n, hnm, rfl⟩)
              have N10 := news_dup (news_dup N3 (p := (L' + 1, oC)) (.tail _ (.tail _ (.tail _ (hps4 _ (by simp)))))) (p := (dE, oE')) (.tail _ (.tail _ (.tail _ (.tail _ (hps4 _ (.head _))))))
              have lI := Heap.lt_size (N3 _ (.head _)).1
              have lC := Heap.lt_size (N3 _ (.tail _ (.head _))).1
              have lD := Heap.lt_size (N3 _ (.tail _ (.tail _ (.head _)))).1
              clear N3 F8 N8
              k_steps
              refine LCg.CompEnd.intro (by assumption) (by assumption) ((h.objs.size, { cls := .type "tuple", data := .seq #[.str n.y tn, .ref n.a] }) :: nw) ?sub ⟨⟨Nat.ne_of_gt lI, Nat.ne_of_gt lC, Nat.ne_of_gt lD⟩, hoff⟩ (.tail _ (hps4 _ (.head _))) ⟨ps ++ [⟨h.objs.size, n.y, tn, n.a⟩], ?e1, ?e2, ?e3, ?e4, fun q hq => .tail _ (hps4 q hq)⟩
              case sub =>
                intro p hp
                rcases List.mem_cons.mp hp with rfl | hp
                · exact .tail _ (.tail _ (.tail _ (.head _)))
                · rcases List.mem_cons.mp hp with rfl | hp
                  · exact .tail _ (.tail _ (.tail _ (.tail _ (.head _))))
                  · rcases List.mem_cons.mp hp with rfl | hp
                    · exact .tail _ (.tail _ (.tail _ (.tail _ (.tail _ (.head _)))))
                    · rcases List.mem_cons.mp hp with rfl | hp
                      · exact .head _
                      · exact .tail _ (.tail _ (.tail _ (.tail _ (.tail _ (.tail _ hp)))))
              case e1 => rw [List.map_append]; rfl
              case e2 => rw [List.map_append, hps1, List.take_add_one, hn9]; simp
              case e3 => rw [List.map_append, hps2, List.take_add_one, hn9]; simp
              case e4 =>
                intro p hp
                rcases List.mem_append.mp hp with hp | hp
                · exact .tail _ (hps3 p hp)
                · rw [List.mem_singleton.mp hp]; exact .head _
            case finL =>
              intro g ys nw hp93
              refine Classical.byContradiction fun hn9 => ?_
              obtain ⟨ps, rfl, hps1, hps2, hps3, hps4⟩ := hp93
              refine hn9 ?_
              clear hn9
              intro D2 h2 tk2 F4 N4 o4
              clear F8 N8
              k_steps
              refine Held.of ?_
              rename Fr _ _ _ _ => F5
              rename News _ _ _ _ => N5
              rw [List.take_of_length_le (by simp)] at hps1 hps2
              have hpl : ps.length = fin.length := by
                have h1 := congrArg List.length hps1
                have h2 := congrArg List.length hEn.keys
                rw [List.length_map, List.length_map] at h1
                rw [List.length_map] at h2
                omega
              have hfo := folders hW.gf (fun y => namesOf_mem) hK
              have hf2 : 2 ≤ fin.length := len_sub (l := [sR, sU]) (by decide) (by simp [hfo])
              k_dflt (refine sorted_pe (ps := ps) F5 N5 (.head _) (fun p hp => .tail _ (hps3 p hp)) (by rw [hps1, hEn.keys]; exact hfn) (by omega) (by omega) ?srt)
              intro D3 e3 h3 tk3 qs hqp hqs F6 N6 o6
              clear N5 F5
              k_steps
              rename KtsTurn _ _ _ => kT
              rename Fr _ _ _ _ => kF
              rename News _ _ _ _ => kN
              rename Below _ _ _ _ => kB
              rename Frag.In _ _ => kX
              rename Top _ _ _ _ _ _ => kP
              rename KtsDicts _ _ => kD
              have hrb2 : rb = true ↔ HasRing (ssE (edgesOf dirF (filsOf fis))) := by
                have h1 : ssL l = ssE (edgesOf dirF (filsOf fis)) := funext hG.ss
                rw [← h1]; exact hrb
              (try dsimp only at kN)
              have hend := run_end kN hW.gf hK hEn hps1 hps2 (fun p hp => .tail _ (hps3 p hp)) (fun p hp => .tail _ (hps4 p (by simp [hp]))) hqp hqs hrb2
              exact hret _ _ _ _ _ ⟨hend, fun p hp => .tail _ (.tail _ (.tail _ (hps4 p (by simp [hsub p (hsubN p hp)]))))⟩ kT kF kN kB kX kP kD
          · dsimp only [List.isEmpty, Bool.not_false]
            k_steps
            refine Held.of ?_
            k_dflt (refine' tell_use (get_step w mean mg mb [(dE, oE'), (d1, ol), (L' + 1, oC)] S.self S.sd S.d D9 S.k1 S.k2 S.k3 S.k4 z ta tb od' l' (r0 :: rs') c tl (by omega) (by simp) ⟨by omega, by omega⟩ hOk' hnd (fun y hy => by rw [hSG.nm, show nmL l = _ from hG.nm]; exact hK.sub y (List.mem_append_right _ hy)) hsl) ?Bu5 ?Fu5 ?Xu5 ?Nu5 ?Tu5 ?hku5 ?hdu5 ?huu5 ?_)
            case Bu5 => k_asm
            case Fu5 => k_asm
            case Xu5 => k_asm
            case Tu5 => k_asm
            case hku5 => first | exact rfl | assumption
            case hdu5 => ktr_room
            case huu5 => ktr_units
            case Nu5 => first | k_asm | assumption | exact cb_drop (by k_asm) (fun q hq => .tail _ (.tail _ hq))
            intro v8 n8 h8 tk8 hp94 F8 N8
            refine Classical.byContradiction fun hn9 => ?_
            obtain ⟨R, l2, tz, c8, rfl, rfl, hnd8, hG8, hsl8, hnp8⟩ := hp94
            refine hn9 ?_
            clear hn9
            dsimp only [List.cons_append, List.nil_append] at N8
            k_steps
            refine Held.of ?_
            have hK8 := ki_pass hK hnp8
            k_dflt (refine iterTupleM (lo := { cls := .type "tuple", data := .seq (strValues (r0 :: rs')).toArray }) (vs := strValues (r0 :: rs')) (JIn w (filsOf fis) (edgesOf dirF (filsOf fis)) S.self S.sd S.d D9 S.k1 S.k2 S.k3 S.k4 od' l dE (d1, ol) (L' + 1, oC) rest R (r0 :: rs') z tz fin) rfl F8 N8 (by simp [Srt.led]) rfl rfl ?h0 ?keep ?turnI ?doneI)
            case h0 =>
              exact ⟨[], c8, l2, z, tb, oE', ens, _, _, by simp, by simpa using hK8, hSG.trans hG8, hsl8, hoE, by simpa using hEn.more (fun p hp => .tail _ hp), fun p hp => .tail _ (hsub p hp), .head _, map_one, rfl, hnd8⟩
            case keep =>
              intro i m n hp93
              refine Classical.byContradiction fun hn9 => ?_
              obtain ⟨rs2, c2, l3, zi, tb3, oE3, ens3, tl3, u3, _, _, _, _, _, _, _, hR3, _, rfl, _⟩ := hp93
              refine hn9 ?_
              clear hn9
              simp [Srt.led, hR3]
            case turnI =>
              intro i v m₁ news₁ h tk I io hi hP hp910 hne F₁ N₁
              refine Classical.byContradiction fun hn9 => ?_
              obtain ⟨rs2, c2, l3, zi, tb3, oE3, ens3, tl3, u3, hzi, hK3, hG3, hsl3, hoE3, hEn3, hsub3, hR3, rfl, rfl, hnd3⟩ := hp910
              refine hn9 ?_
              clear hn9
              clear F8 N8
              refine Classical.byContradiction fun hn9 => ?_
              obtain ⟨y, ty, hy, rfl⟩ := strAt2 hP
              refine hn9 ?_
              clear hn9
              rw [ifif] at F₁
              have htk9 : TkOn := .mk
              have hnd4 := (nd_cons (p := (I, io))).mpr ⟨hne, hnd3⟩
              have hnd6 := hnd4
              k_dflt (refine nd_out8 hnd6 ?_)
              intro e01 e02 e03 e04 e05 e06 e07 eR0 e12 e13 e14 e15 e16 e17 eR1 e23 e24 e25 e26 e27 eR2 e34 e35 e36 e37 eR3 e45 e46 e47 eR4 e56 e57 eR5 e67 eR6 eR7 eE
              clear hnd6
              refine Classical.byContradiction fun hn9 => ?_
              obtain ⟨hil, hyg⟩ := List.getElem?_eq_some_iff.mp hy
              refine hn9 ?_
              clear hn9
              have hdr : ((r0 :: rs').map (·.1)).drop i = y :: ((r0 :: rs').map (·.1)).drop (i + 1) := by rw [List.drop_eq_getElem_cons hil, hyg]
              have htk : ((r0 :: rs').map (·.1)).take (i + 1) = ((r0 :: rs').map (·.1)).take i ++ [y] := by rw [List.take_add_one, hy]; rfl
              rw [hdr] at hK3
              have hndK := hK3.nd
              have hyn : y ∈ namesOf (edgesOf dirF (filsOf fis)) := hK3.sub y (by simp)
              have hyf : y ∉ fin ++ ((r0 :: rs').map (·.1)).take i := fun q => by
                rw [List.nodup_append] at hndK
                exact hndK.2.2 y q y (by simp) rfl
              have hfn3 : (fin ++ ((r0 :: rs').map (·.1)).take i).Nodup := by rw [List.nodup_append] at hndK; exact hndK.1
              have hyo := ens_off hEn3 hyf
              have hi9 : i ≤ 100 := by have h1 : (strValues (r0 :: rs')).length = (r0 :: rs').length := by simp [strValues]
                                       omega
              have hz3 : 0 ≤ zi ∧ zi ≤ 1000 := by omega
              have hOk3 : Srt.Ok w ⟨S.self, S.sd, S.d, S.k1, S.k2, S.k3, S.k4, .ref D9, .int (z + (r0 :: rs').length) tz, .int zi tb3, od', l3⟩ := Srt.Ok.same (by have := hG.ok; exact this) hG3
              have hss3 : ∀ y, ssL l3 y = ssE (edgesOf dirF (filsOf fis)) y := fun y => (hG3.ss y).trans (hG.ss y)
              have hnm3 : nmL l3 = namesOf (edgesOf dirF (filsOf fis)) := hG3.nm.trans hG.nm
              have hE3 : ∀ e ∈ edgesOf dirF (filsOf fis), e.1 ∈ namesOf (edgesOf dirF (filsOf fis)) := fun e he => namesOf_mem.mpr ⟨e, he, .inl rfl⟩
              have hfa : fin ++ ((r0 :: rs').map (·.1)).take (i + 1) = (fin ++ ((r0 :: rs').map (·.1)).take i) ++ [y] := by rw [htk, List.append_assoc]
              have hel : (ens3.map EN.kv).length ≤ 100 := by
                rw [List.length_map]
                have h1 := congrArg List.length hEn3.keys
                rw [List.length_map] at h1
                have h2 := len_sub hfn3 (fun z hz => hK3.sub z (List.mem_append_left _ hz))
                omega
              have hod := hF2.dict
              have hlow := hF2.low
              have hdm := hsub3 _ hF2.mem
              have g1 : d ≠ dE := eR1 _ (List.mem_append_right _ hdm)
              by_cases hff : ∃ f ∈ filsOf fis, f.name = y
              · refine Classical.byContradiction fun hn9 => ?_
                obtain ⟨f, hfm, rfl⟩ := hff
                refine hn9 ?_
                clear hn9
                by_cases hg : f.goal = sE
                · have hv1 := leads_plain hW.gf.nd hLe hfm hg
                  refine Classical.byContradiction fun hn9 => ?_
                  obtain ⟨fi, hfi, rfl⟩ := fi_of hfm
                  refine hn9 ?_
                  clear hn9
                  have hv2 := fi_val hF2 hfi
                  have hdt := hsub3 _ (hF2.tup fi hfi)
                  have g2 : fi.ta ≠ dE := eR1 _ (List.mem_append_right _ hdt)
                  have hpl := hW.plain _ hfm hg
                  have m0 : 0 ≤ fi.f.mode := by omega
                  have m1 : fi.f.mode < 65536 := by omega
                  have N10 := news_dup (news_dup N₁ (p := (fi.ta, { cls := .type "tuple", data := .seq #[.int fi.f.mode fi.tm, .str fi.f.text fi.tt, .str fi.f.goal fi.tg] })) (by have := hdt; unfold FI.obj at this; simp [this])) (p := (d, od)) (by simp [hdm])
                  clear N₁
                  k_steps
                  refine Held.of ?_
                  rename Obj.IsDictOf _ _ (stored _ _ _) => hd9
                  rename _ ∧ _ ∧ _ ∧ _ ∧ _ ∧ _ ∧ _ ∧ _ ∧ _ ∧ _ ∧ AllLt _ _ => lT
                  rename Fr _ _ _ _ => F11
                  rename News _ _ _ _ => N11
                  obtain ⟨n, hny, hne9, N12, hndT, hd10⟩ := pack1 (news_skip N11) hnd4 (by simp only [Srt.led, List.forall_mem_cons]; exact ⟨lT.2.2.1, lT.2.2.2.1, lT.2.2.2.2.1, lT.2.2.2.2.2.1, lT.2.2.2.2.2.2.1, lT.2.2.2.2.2.2.2.1, lT.2.2.2.2.2.2.2.2.1, lT.2.2.2.2.2.2.2.2.2.1, ktn_ltOf lT.2.2.2.2.2.2.2.2.2.2⟩) hd9 hyo
                  clear N11
                  have hEn9 := (hEn3.more (tl' := n.obj :: tl3) (fun p hp => .tail _ hp)).snoc (n := n) (.head _) (by rw [hny, hne9]; exact ⟨0, .plain hfm hg⟩)
                  rw [hny] at hEn9
                  k_dflt (refine' tell_use (done_step w mean mg mb [(I, io), (dE, _), (d1, ol), (L' + 1, oC)] S.self S.sd S.d D9 S.k1 S.k2 S.k3 S.k4 (.int (z + (r0 :: rs').length) tz) zi tb3 od' l3 rs2 c2 _ fi.f.name ty (edgesOf dirF (filsOf fis)) (namesOf (edgesOf dirF (filsOf fis))) (fin ++ ((r0 :: rs').map (·.1)).take i) (((r0 :: rs').map (·.1)).drop (i + 1)) hOk3 hndT hz3 hK3 hss3 hnm3 hE3 (Nat.le_trans hnames (by decide)) hsl3) ?Bu6 ?Fu6 ?Xu6 ?Nu6 ?Tu6 ?hku6 ?hdu6 ?huu6 ?_)
                  case Bu6 => k_asm
                  case Fu6 => k_asm
                  case Xu6 => k_asm
                  case Tu6 => k_asm
                  case hku6 => first | exact rfl | assumption
                  case hdu6 => ktr_room
                  case huu6 => ktr_units
                  case Nu6 => first | k_asm | assumption | exact cb_drop (by k_asm) (fun q hq => .tail _ (.tail _ hq))
                  intro v8 n8 h8 tk8 hp94 F10 N10
                  refine Classical.byContradiction fun hn9 => ?_
                  obtain ⟨rfl, l4, rs4, c4, t4, rfl, hnd9, hG4, hsl4, hK4⟩ := hp94
                  refine hn9 ?_
                  clear hn9
                  rw [← hfa] at hK4 hEn9
                  k_steps
                  rename Fr _ _ _ _ => F11
                  rename News _ _ _ _ => N11
                  exact TurnEnd.fin (.inl rfl) F11 N11 (nd_cons.mp hnd9).1 ⟨rs4, c4, l4, zi + 1, t4, _, _, _, _, by rw [hzi]; push_cast; rw [Int.add_assoc], hK4, hG3.trans hG4, hsl4, hd10, hEn9, fun p hp => .tail _ (hsub3 p hp), .tail _ hR3, rfl, rfl, (nd_cons.mp hnd9).2⟩
                · refine Classical.byContradiction fun hn9 => ?_
                  obtain ⟨tg, hv1⟩ := leads_at hol hLe hfm hg
                  refine hn9 ?_
                  clear hn9
                  have hgf := ki_pre hK3 (y := f.name) (by simp) (mem_edges.mpr (.inr (.inr ⟨f, hfm, rfl, .inr ⟨hg, rfl⟩⟩)))
                  refine Classical.byContradiction fun hn9 => ?_
                  obtain ⟨k, hk9, hkg, hv2⟩ := ens_on hEn3 hfn3 hgf
                  refine hn9 ?_
                  clear hn9
                  k_steps
                  refine Held.of ?_
                  rename Obj.IsDictOf _ _ (stored _ _ _) => hd9
                  have hEn9 := hEn3.snoc (n := (⟨f.name, k.a, k.e, k.t1, k.t2⟩ : EN)) (hEn3.obj k hk9) (by obtain ⟨j, hj⟩ := hEn3.ends k hk9; rw [hkg] at hj; exact ⟨j + 1, .link hfm hg hj⟩)
                  rename Fr _ _ _ _ => F11
                  rename News _ _ _ _ => N11
                  refine Classical.byContradiction fun hn9 => ?_
                  obtain ⟨N12, hndT, hd10⟩ := pack0 ⟨f.name, k.a, k.e, k.t1, k.t2⟩ N11 hnd4 hd9 hyo
                  refine hn9 ?_
                  clear hn9
                  clear N11
                  k_dflt (refine' tell_use (done_step w mean mg mb [(I, io), (dE, _), (d1, ol), (L' + 1, oC)] S.self S.sd S.d D9 S.k1 S.k2 S.k3 S.k4 (.int (z + (r0 :: rs').length) tz) zi tb3 od' l3 rs2 c2 tl3 f.name ty (edgesOf dirF (filsOf fis)) (namesOf (edgesOf dirF (filsOf fis))) (fin ++ ((r0 :: rs').map (·.1)).take i) (((r0 :: rs').map (·.1)).drop (i + 1)) hOk3 hndT hz3 hK3 hss3 hnm3 hE3 (Nat.le_trans hnames (by decide)) hsl3) ?Bu7 ?Fu7 ?Xu7 ?Nu7 ?Tu7 ?hku7 ?hdu7 ?huu7 ?_)
                  case Bu7 => k_asm
                  case Fu7 => k_asm
                  case Xu7 => k_asm
                  case Tu7 => k_asm
                  case hku7 => first | exact rfl | assumption
                  case hdu7 => ktr_room
                  case huu7 => ktr_units
                  case Nu7 => first | k_asm | assumption | exact cb_drop (by k_asm) (fun q hq => .tail _ (.tail _ hq))
                  intro v8 n8 h8 tk8 hp94 F10 N10
                  refine Classical.byContradiction fun hn9 => ?_
                  obtain ⟨rfl, l4, rs4, c4, t4, rfl, hnd9, hG4, hsl4, hK4⟩ := hp94
                  refine hn9 ?_
                  clear hn9
                  rw [← hfa] at hK4 hEn9
                  k_steps
                  rename Fr _ _ _ _ => F11
                  rename News _ _ _ _ => N11
                  exact TurnEnd.fin (.inl rfl) F11 N11 (nd_cons.mp hnd9).1 ⟨rs4, c4, l4, zi + 1, t4, _, _, _, _, by rw [hzi]; push_cast; rw [Int.add_assoc], hK4, hG3.trans hG4, hsl4, hd10, hEn9, hsub3, hR3, rfl, rfl, (nd_cons.mp hnd9).2⟩
              · have hv1 := leads_off hLe (fun f hf e => hff ⟨f, hf, e⟩)
                have hv2 := fi_none hff
                have N10 := news_dup N₁ (p := (d, od)) (by simp [hdm])
                clear N₁
                k_steps
                refine Held.of ?_
                rename Obj.IsDictOf _ _ (stored _ _ _) => hd9
                rename _ ∧ _ ∧ _ ∧ _ ∧ _ ∧ _ ∧ _ ∧ _ ∧ _ ∧ AllLt _ _ => lT
                rename Fr _ _ _ _ => F11
                rename News _ _ _ _ => N11
                obtain ⟨n, hny, hne9, N12, hndT, hd10⟩ := pack1 N11 hnd4 (by simp only [Srt.led, List.forall_mem_cons]; exact ⟨lT.2.1, lT.2.2.1, lT.2.2.2.1, lT.2.2.2.2.1, lT.2.2.2.2.2.1, lT.2.2.2.2.2.2.1, lT.2.2.2.2.2.2.2.1, lT.2.2.2.2.2.2.2.2.1, ktn_ltOf lT.2.2.2.2.2.2.2.2.2⟩) hd9 hyo
                clear N11
                have hEn9 := (hEn3.more (tl' := n.obj :: tl3) (fun p hp => .tail _ hp)).snoc (n := n) (.head _) (by rw [hny, hne9]; exact ⟨0, .none fun f hf e => hff ⟨f, hf, e⟩⟩)
                rw [hny] at hEn9
                k_dflt (refine' tell_use (done_step w mean mg mb [(I, io), (dE, _), (d1, ol), (L' + 1, oC)] S.self S.sd S.d D9 S.k1 S.k2 S.k3 S.k4 (.int (z + (r0 :: rs').length) tz) zi tb3 od' l3 rs2 c2 _ y ty (edgesOf dirF (filsOf fis)) (namesOf (edgesOf dirF (filsOf fis))) (fin ++ ((r0 :: rs').map (·.1)).take i) (((r0 :: rs').map (·.1)).drop (i + 1)) hOk3 hndT hz3 hK3 hss3 hnm3 hE3 (Nat.le_trans hnames (by decide)) hsl3) ?Bu8 ?Fu8 ?Xu8 ?Nu8 ?Tu8 ?hku8 ?hdu8 ?huu8 ?_)
                case Bu8 => k_asm
                case Fu8 => k_asm
                case Xu8 => k_asm
                case Tu8 => k_asm
                case hku8 => first | exact rfl | assumption
                case hdu8 => ktr_room
                case huu8 => ktr_units
                case Nu8 => first | k_asm | assumption | exact cb_drop (by k_asm) (fun q hq => .tail _ (.tail _ hq))
                intro v8 n8 h8 tk8 hp94 F10 N10
                refine Classical.byContradiction fun hn9 => ?_
                obtain ⟨rfl, l4, rs4, c4, t4, rfl, hnd9, hG4, hsl4, hK4⟩ := hp94
                refine hn9 ?_
                clear hn9
                rw [← hfa] at hK4 hEn9
                k_steps
                rename Fr _ _ _ _ => F11
                rename News _ _ _ _ => N11
                exact TurnEnd.fin (.inl rfl) F11 N11 (nd_cons.mp hnd9).1 ⟨rs4, c4, l4, zi + 1, t4, _, _, _, _, by rw [hzi]; push_cast; rw [Int.add_assoc], hK4, hG3.trans hG4, hsl4, hd10, hEn9, fun p hp => .tail _ (hsub3 p hp), .tail _ hR3, rfl, rfl, (nd_cons.mp hnd9).2⟩
            case doneI =>
              intro m₁ news₁ h tk hp94 F₁ N₁
              refine Classical.byContradiction fun hn9 => ?_
              obtain ⟨rs2, c2, l3, zi, tb3, oE3, ens3, tl3, u3, hzi, hK3, hG3, hsl3, hoE3, hEn3, hsub3, hR3, rfl, rfl, hnd3⟩ := hp94
              refine hn9 ?_
              clear hn9
              clear F8 N8
              k_steps
              rename Fr _ _ _ _ => F9
              rename News _ _ _ _ => N9
              have hsl0 : (strValues (r0 :: rs')).length = (r0 :: rs').length := by simp [strValues]
              rw [hsl0] at hzi hK3 hEn3
              rw [List.take_of_length_le (by simp)] at hK3 hEn3
              rw [List.drop_of_length_le (by simp)] at hK3
              subst hzi
              have hfr : (fin ++ (r0 :: rs').map (·.1)).length ≤ (namesOf (edgesOf dirF (filsOf fis))).length := by
                have h1 := hK3.nd
                rw [List.nodup_append] at h1
                exact len_sub h1.1 (fun z hz => hK3.sub z (List.mem_append_left _ hz))
              simp only [List.length_append, List.length_map, List.length_cons] at hfr
              refine step2_next (.inl rfl) F9 N9 ?_ ⟨_, rs2, c2, l3, _, _, _, oE3, ens3, tl3, u3, hK3, hG3, hsl3, rfl, ?_, hoE3, hEn3, hsub3, ifif _ _ _ _, rfl, hnd3⟩
              · simp only [List.length_append, List.length_map, List.length_cons]; omega
              · simp only [List.length_append, List.length_map, List.length_cons, hz]; push_cast; rfl
end Mine
-- Tl
open PySem PySem.W PySem.Calls PyProof.Rows
namespace Mine


theorem lines_Tl1 : True := by
  k_with_none
  k_with "k_ne" => (first | with_reducible assumption | exact Ne.symm (by with_reducible assumption) | (refine neN ?_; (try dsimp only); first | with_reducible assumption | exact Ne.symm (by with_reducible assumption) | exact Nat.ne_of_lt (by with_reducible assumption) | exact Nat.ne_of_gt (by with_reducible assumption) | exact nl0 (by with_reducible assumption) | exact ng0 (by with_reducible assumption) | exact nl1 (by with_reducible assumption) | exact ng1 (by with_reducible assumption) | exact nl2 (by with_reducible assumption) | exact ng2 (by with_reducible assumption) | exact nl3 (by with_reducible assumption) | exact ng3 (by with_reducible assumption) | exact nl4 (by with_reducible assumption) | exact ng4 (by with_reducible assumption) | exact nl5 (by with_reducible assumption) | exact ng5 (by with_reducible assumption) | exact nl6 (by with_reducible assumption) | exact ng6 (by with_reducible assumption) | exact nl7 (by with_reducible assumption) | exact ng7 (by with_reducible assumption) | exact nl8 (by with_reducible assumption) | exact ng8 (by with_reducible assumption) | exact nl9 (by with_reducible assumption) | exact ng9 (by with_reducible assumption) | omega))
  k_with "room" => (first | exact room0 (by with_reducible assumption) | exact room1 (by with_reducible assumption) (by decide) | exact room2 (by with_reducible assumption) (by decide) | exact room3 (by with_reducible assumption) (by decide))
  k_with "units" => (first | exact unit0 (by with_reducible assumption) | exact unit1 (by with_reducible assumption) (by decide) | exact unit2 (by with_reducible assumption) (by decide) | exact unit3 (by with_reducible assumption) (by decide))
  k_with "om" => (first | with_reducible assumption | with_reducible exact le_lit (by with_reducible assumption) (by decide) | with_reducible exact add_lit (by with_reducible assumption) (by with_reducible assumption) (by with_reducible assumption) (by decide) | with_reducible exact lt_lel (by with_reducible assumption) (by decide) | with_reducible exact sum_lit (by with_reducible assumption) (by with_reducible assumption) (by decide) | with_reducible exact suc_lit (by with_reducible assumption) (by decide) | with_reducible exact lt_lit (by with_reducible assumption) (by decide) | with_reducible exact le_ltl (by with_reducible assumption) (by decide) | with_reducible exact ige_lit (by with_reducible assumption) (by decide) | with_reducible exact ile_lit (by with_reducible assumption) (by decide) | with_reducible exact ilt_lit (by with_reducible assumption) (by decide) | omega)
  k_with "execs cons" => (k_here; k_fold)
  k_with "execs cons" => (k_here; (with_reducible show wpAny _ _ _ _ _ (Shared.mk _ _ _ (_ + _) _)); refine toks_all ?_; intro tk; (try dsimp only))
  k_with "execs nil" => (k_here; (with_reducible show wpAny _ _ _ _ _ (Shared.mk _ _ _ (_ + _) _)); refine toks_all ?_; intro tk; (try dsimp only))
  k_with "eval BinOp" => (k_here; k_fold)
  k_with "eval Call Attribute" => (k_here; k_fold)
  k_with "eval Call Name" => (k_here; k_fold)
  k_with "eval Call" => (k_here; k_fold)
  k_with "eval Subscript" => (k_here; k_fold)
  k_with "eval Compare" => (k_here; k_fold)
  k_with "eval IfExp" => (k_here; k_fold)
  k_with "eval List" => (k_here; k_fold)
  k_with "eval Tuple" => (k_here; k_fold)
  k_with "k_all" => (first | exact allLt_ne (by assumption) | assumption | (intro p9 hp9; refine neN ?_; have h9 := ltN (ktn_ltOf (by first | assumption | exact (show _ ∧  AllLt _ _ by assumption).2 | exact (show _ ∧ _ ∧  AllLt _ _ by assumption).2.2 | exact (show _ ∧ _ ∧ _ ∧  AllLt _ _ by assumption).2.2.2 | exact (show _ ∧ _ ∧ _ ∧ _ ∧  AllLt _ _ by assumption).2.2.2.2 | exact (show _ ∧ _ ∧ _ ∧ _ ∧ _ ∧  AllLt _ _ by assumption).2.2.2.2.2 | exact (show _ ∧ _ ∧ _ ∧ _ ∧ _ ∧ _ ∧  AllLt _ _ by assumption).2.2.2.2.2.2 | exact (show _ ∧ _ ∧ _ ∧ _ ∧ _ ∧ _ ∧ _ ∧  AllLt _ _ by assumption).2.2.2.2.2.2.2 | exact (show _ ∧ _ ∧ _ ∧ _ ∧ _ ∧ _ ∧ _ ∧ _ ∧  AllLt _ _ by assumption).2.2.2.2.2.2.2.2 | exact (show _ ∧ _ ∧ _ ∧ _ ∧ _ ∧ _ ∧ _ ∧ _ ∧ _ ∧  AllLt _ _ by assumption).2.2.2.2.2.2.2.2.2 | exact (show _ ∧ _ ∧ _ ∧ _ ∧ _ ∧ _ ∧ _ ∧ _ ∧ _ ∧ _ ∧  AllLt _ _ by assumption).2.2.2.2.2.2.2.2.2.2) p9 hp9); first | exact Nat.ne_of_lt h9 | exact Nat.ne_of_gt h9 | omega))
  k_with "pyIter ref" => (refine Held.mk ?_)
  k_with "exec For Name BinOp cons nil" => (k_here; (rename Fr _ _ _ _ => lF'); (with_unfolding_all refine' For_turns lF' ?_; k_whole))
  k_with "call type:list" => (k_here; (with_reducible show wpAny _ _ (call (Value.type "list") [Value.ref _]) _ _ _); k_dflt (refine' list_keys (by exact rfl) (by k_asm) (by k_asm) (by k_mem) (by assumption) (by assumption) (by assumption) ?_; k_whole); intro B1 c1 hx3 tk5 ks1 hks1 F8 N8 lt1; (try k_lt lt1))
  k_with "binaryOp Add ref ref" => (k_here; (with_reducible show wpAny _ _ (binaryOp _ (Value.ref _) (Value.ref _)) _ _ _); k_dflt (refine' add4 (by k_asm) (by k_asm) (by k_mem) (by k_mem) (by assumption) (by assumption) ?_; k_whole); intro D1 hx5 ks2 hks2 F2 N2 lt3; (try k_lt lt3))
  k_with "subscriptTail Name Name ref str" => (k_here; (with_reducible show wpAny _ _ (subscriptTail _ _ (Value.ref _) (Value.str _ _)) _ _ _); k_dflt (refine' kda_item (knd := PySem.strKind _ _) (by k_asm) (by k_mem) (by assumption) (strKind_is _ _ _ _) (by first | assumption | exact valueAt_stored (by assumption)) ?_))
  k_with "subscriptTail Name Subscript ref str" => (k_here; (with_reducible show wpAny _ _ (subscriptTail _ _ (Value.ref _) (Value.str _ _)) _ _ _); k_dflt (refine' kda_item (knd := PySem.strKind _ _) (by k_asm) (by k_mem) (by assumption) (strKind_is _ _ _ _) (by first | assumption | exact valueAt_stored (by assumption)) ?_))
  k_with "k_ne" => (first | with_reducible assumption | exact Ne.symm (by with_reducible assumption) | (refine neN ?_; (try dsimp only); first | with_reducible assumption | exact Ne.symm (by with_reducible assumption) | exact Nat.ne_of_lt (by with_reducible assumption) | exact Nat.ne_of_gt (by with_reducible assumption) | exact nl0 (by with_reducible assumption) | exact ng0 (by with_reducible assumption) | exact nl1 (by with_reducible assumption) | exact ng1 (by with_reducible assumption) | exact nl2 (by with_reducible assumption) | exact ng2 (by with_reducible assumption) | exact nl3 (by with_reducible assumption) | exact ng3 (by with_reducible assumption) | exact nl4 (by with_reducible assumption) | exact ng4 (by with_reducible assumption) | exact nl5 (by with_reducible assumption) | exact ng5 (by with_reducible assumption) | exact nl6 (by with_reducible assumption) | exact ng6 (by with_reducible assumption) | exact nl7 (by with_reducible assumption) | exact ng7 (by with_reducible assumption) | exact nl8 (by with_reducible assumption) | exact ng8 (by with_reducible assumption) | exact nl9 (by with_reducible assumption) | exact ng9 (by with_reducible assumption) | omega))
  k_with "k_mem" => (first | exact List.Mem.head _ | (with_reducible assumption) | exact (show _ ∈ _ from by with_reducible assumption) | exact List.mem_append_right _ (by with_reducible assumption) | (refine' List.Mem.tail _ ?_; k_mem))
  k_with "subscriptTail Subscript Name Name Constant ref int" => (k_here; k_dflt (refine' item_tupleT (by exact News.isTup (by k_asm) (by k_mem)) (by decide) (by decide) (by exact rfl) (by exact rfl) ?_))
  k_with "compareOp In str ref" => (k_here; k_dflt (first | (refine' in_yes (by k_asm) (by k_mem) (by assumption) (by assumption) (by with_reducible assumption) ?_) | (refine' in_no (by k_asm) (by k_mem) (by assumption) (by assumption) (by with_reducible assumption) ?_)); (try dsimp only))
  k_with "execs cons" => (k_here; (have htk9 : TkOn := by assumption); clear htk9; (with_reducible show wpAny _ _ _ _ _ (Shared.mk _ _ _ (_ + _) _)); refine toks_all ?_; intro tk; (try dsimp only))
  k_with "execs nil" => (k_here; (have htk9 : TkOn := by assumption); clear htk9; (with_reducible show wpAny _ _ _ _ _ (Shared.mk _ _ _ (_ + _) _)); refine toks_all ?_; intro tk; (try dsimp only))
  k_with "call ref" => (k_here; (with_reducible show wpAny _ _ (call (Value.ref 327) [Value.int _ _]) _ _ _); k_dflt (refine' tellS_use (law_rowF_c _ _ _ _ _ _ _ (by with_reducible assumption)) (by k_asm) (by k_asm) (by k_asm) (by k_asm) (by k_asm) (by first | exact rfl | assumption) (by ktr_room) (by ktr_units) ?_); intro t9 h9 tk9 F9 N9; (try dsimp only); (try k_fold))
  k_with "call builtin:len" => (k_here; k_dflt (refine' kda_len (knd := PySem.strKind _ _) (by k_asm) (by k_mem) (by assumption) (by assumption) (by exact Nat.le_trans (by with_reducible assumption) (by decide)) ?_); (try dsimp only))
  k_with "call builtin:list.append" => (k_here; k_dflt (refine' appendL (by k_asm) (by k_asm) (by k_upd) (by exact Nat.le_trans (by with_reducible assumption) (by decide)) ?_; k_whole); intro h' F' N'; (try k_sweep))
  k_with "eval ListComp" => (k_here; k_dflt (refine ListComp_GT (F₀ := by k_asm) (by with_unfolding_all rfl) (by decide) (by rfl) (by decide) (by rfl) ?_))
  k_with "compareOp NotEq ref ref" => (refine Held.mk ?_)
  k_with "exec While" => (refine Held.mk ?_)
  k_with "call builtin:sorted" => (refine Held.mk ?_)
  trivial

theorem map_told {le : Value} : (fun y => if y = Str.ofString "ends" then some le else if y = Str.ofString "ring" then some (Value.bool false) else none) = fun y => if y = Str.ofString "ring" then some (Value.bool false) else if y = Str.ofString "place" then none else if y = Str.ofString "steps" then none else if y = Str.ofString "ends" then some le else if y = Str.ofString "ring" then some (Value.bool false) else none := by
  funext y
  by_cases h1 : y = Str.ofString "ring"
  · rw [if_pos h1, if_pos h1, if_neg (by rw [h1]; decide)]
  · rw [if_neg h1, if_neg h1]
    by_cases h2 : y = Str.ofString "place"
    · rw [if_pos h2, if_neg (by rw [h2]; decide)]
    · rw [if_neg h2]
      by_cases h3 : y = Str.ofString "steps"
      · rw [if_pos h3, if_neg (by rw [h3]; decide)]
      · rw [if_neg h3]
set_option pp.maxSteps 3000 in
theorem law_told_c (w : World) (mean : ExcName → Option Value) (mg mb : Str → Option Value) (news : Led) (d : Addr) (od : Obj) (fis : List FI) (hF : FilesAt w d od fis news) (hN : ND news) (hW : WF (filsOf fis)) :
    TellG w mean mg mb 10 80 332 [.ref d] news (fun v n' => (∃ rb l, Spec (filsOf fis) rb l ∧ DatIn n' v (resD rb l)) ∧ ∀ p ∈ news, p ∈ n') (fun _ => False) := by
  have hd := hF.dict
  have hdm := hF.mem
  have hlow := hF.low
  have hlen : (fis.map FI.kv).length ≤ 100 := by
    have h1 := hW.len
    unfold filsOf at h1
    rw [List.length_map] at h1 ⊢
    omega
  unfold TellG
  k_fill
  intro dp un gd cn cs a ccd cl outer A₀ base h₀ L m
  intro s Q E B F X N T XB TB D hk hdp hun hret hexc
  refine wpAny_call ?_
  k_dflt (refine' enterCK (ce := envX cn cs L a ccd cl) rfl hk B F X N T XB TB D ?kA ?k6 ?k7 ?k8 ?k9 ?kB ?kD ?_ ?c2 ?c3 ?c4; (case kA => exact rfl); (case k6 => k_is); (case k7 => k_is); (case k8 => ktr_room); (case k9 => exact BindsTo.of_eq rfl); (case kB => exact rfl); (case kD => decide +kernel); (case c2 => exact rfl); (case c3 => exact rfl); (case c4 => exact rfl); k_whole; intro g' L' h' tk' cells' FG' F' N' Y' l1 B' X' T' D'; (try k_lt l1); k_cells Y'; (try simp only [List.cons_append, List.nil_append] at N'); (try dsimp only); (try k_lift B'); (try k_fold))
  refine wpAny_noRaise ?_
  rename_i oA oB dA dB
  have dA' : oA.data = Data.cell none := dA
  have dB' : oB.data = Data.cell (some (.ref d)) := dB
  clear dA dB
  have F9 : Fr g' L' h' (fun _ => none) := F'
  clear F'
  k_steps
  refine Held.of ?_
  rename_i lE hx1 ltE hx2 qk8 ek8 LL hx4 F3 N3 lt2
  rename ∀ p : Addr × Obj, p ∈ news → p.1 < _ => l0
  have hvs : ks2.map (·.1) = toldL (filsOf fis) := by
    rw [hks2, List.map_map]
    unfold toldL filsOf
    rw [List.map_map]
    rfl
  have N4 : News g' L' hx5 ((lE, W.listOf #[] 0) :: (L' + 1, oB) :: (L' + 1 + 1, oA) :: (D1, W.listOf (strValues ks2).toArray 0) :: news) := cb_drop N2 (fun q hq => by
    simp only [List.mem_cons] at hq ⊢
    rcases hq with h | h | h | h | h
    · exact .inr (.inr (.inr (.inl h)))
    · exact .inr (.inr (.inr (.inr (.inr (.inl h)))))
    · exact .inr (.inr (.inr (.inr (.inl h))))
    · exact .inl h
    · exact .inr (.inr (.inr (.inr (.inr (.inr h))))))
  have hnd4 : ND ((lE, W.listOf #[] 0) :: (L' + 1, oB) :: (L' + 1 + 1, oA) :: (D1, W.listOf (strValues ks2).toArray 0) :: news) := by
    have n1 := ktn_ltOf ltE.2.2
    have n2 := ktn_ltOf lt3.2.2.2.2.2
    have q1 := ltN ltE.1
    have q2 := ltN ltE.2.1
    have q3 := ltN lt3.2.2.1
    have q4 := ltN lt3.2.2.2.1
    have q5 := ltN lt3.2.2.2.2.1
    simp only [nd_cons, List.forall_mem_cons]
    refine ⟨⟨?_, ?_, ?_, fun q hq => Nat.ne_of_lt (n1 q hq)⟩, ⟨?_, ?_, fun q hq => ?_⟩, ⟨?_, fun q hq => ?_⟩, fun q hq => Nat.ne_of_lt (n2 q hq), hN⟩
    · exact Nat.ne_of_lt q2
    · exact Nat.ne_of_lt q1
    · exact Nat.ne_of_gt q3
    · exact Nat.ne_of_gt (Nat.lt_succ_self _)
    · exact Nat.ne_of_gt q5
    · exact Nat.ne_of_lt (Nat.lt_succ_of_lt (l0 q hq))
    · exact Nat.ne_of_gt q4
    · exact Nat.ne_of_lt (Nat.lt_succ_of_lt (Nat.lt_succ_of_lt (l0 q hq)))
  clear N3 F3 N2 ltE lt1 lt2 lt3 hks1 hks2
  k_dflt (refine iterListC (lo := W.listOf (strValues ks2).toArray 0) (vs := strValues ks2) (JTold (filsOf fis) lE (L' + 1) (L' + 1 + 1) oB ((D1, W.listOf (strValues ks2).toArray 0) :: news)) rfl F2 N4 (by simp) rfl rfl ?h0 ?keep ?turn ?done)
  case h0 =>
    refine ⟨false, [], [], 0, oA, _, (D1, W.listOf (strValues ks2).toArray 0) :: news, none, none, .nil, dA', fun p hp => hp, hnd4, ?_, rfl⟩
    exact map_told
  case keep =>
    intro i m n hp93
    refine Classical.byContradiction fun hn9 => ?_
    obtain ⟨rb, ens, ps, c, oP, vP, tl, u1, u2, hT, hoP, hsub, hnd, rfl, rfl⟩ := hp93
    refine hn9 ?_
    clear hn9
    exact .tail _ (.tail _ (.tail _ (hsub _ (.head _))))
  case turn =>
    intro i v m₁ nw h tk I io hi hP hp910 hne F₁ N₁
    refine Classical.byContradiction fun hn9 => ?_
    obtain ⟨rb, ens, ps, c, oP, vP, tl, u1, u2, hT, hoP, hsub, hnd, rfl, rfl⟩ := hp910
    refine hn9 ?_
    clear hn9
    clear F2 N4 hnd4
    refine Classical.byContradiction fun hn9 => ?_
    obtain ⟨x, tx, hx, rfl⟩ := strAt2 hP
    refine hn9 ?_
    clear hn9
    rw [hvs] at hx
    have hnd4 := (nd_cons (p := (I, io))).mpr ⟨hne, hnd⟩
    have hnd6 := hnd4
    k_dflt (refine nd_out4 hnd6 ?_)
    intro e01 e02 e03 eR0 e12 e13 eR1 e23 eR2 eR3 eE
    clear hnd6
    have hdt := hsub _ (.tail _ hdm)
    have htk9 : TkOn := .mk
    have hxm : x ∈ toldL (filsOf fis) := List.mem_of_getElem? hx
    have htk : (toldL (filsOf fis)).take (i + 1) = (toldL (filsOf fis)).take i ++ [x] := by rw [List.take_add_one, hx]; rfl
    have hpl : (ps.map PE.ref).length ≤ 100 := by
      have h1 := congrArg List.length hT.ky
      have h2 := hT.sub.length_le
      have h3 := hW.len
      simp only [List.length_map, List.length_take, toldL, List.length_append, List.length_cons, List.length_nil] at h1 h2 ⊢
      omega
    have hfl : (fis.map FI.kv).length = (filsOf fis).length := by unfold filsOf; simp
    k_steps
    refine Held.of ?_
    rename Fr _ _ _ _ => F3
    rename News _ _ _ _ => N3
    rename Obj.data _ = Data.cell (some (Value.str _ _)) => dP
    k_dflt (refine While_N (JStp (filsOf fis) x _) ((filsOf fis).length + 1) F3 N3 ⟨0, x, _, tx, rfl, by omega, .zero, rfl, map_st (by decide)⟩ ?turnW)
    intro k m₁ nw h₁ tk₁ F₁ N₁ hp97
    refine Classical.byContradiction fun hn9 => ?_
    obtain ⟨n, z, t, tz, rfl, hn, hst, rfl, rfl⟩ := hp97
    refine hn9 ?_
    clear hn9
    clear F3 N3
    by_cases hff : ∃ f ∈ filsOf fis, f.name = z
    · refine Classical.byContradiction fun hn9 => ?_
      obtain ⟨f, hfm, rfl⟩ := hff
      refine hn9 ?_
      clear hn9
      refine Classical.byContradiction fun hn9 => ?_
      obtain ⟨fi, hfi, rfl⟩ := fi_of hfm
      refine hn9 ?_
      clear hn9
      have hv2 := fi_val hF hfi
      have hft := hsub _ (.tail _ (hF.tup fi hfi))
      unfold FI.obj at hft
      have N10 := news_dup (news_dup N₁ (p := (fi.ta, { cls := .type "tuple", data := .seq #[.int fi.f.mode fi.tm, .str fi.f.text fi.tt, .str fi.f.goal fi.tg] })) (by simp [hft])) (p := (d, od)) (by simp [hdt])
      have g1 : d ≠ lE := eR1 _ hdt
      have g2 : fi.ta ≠ lE := eR1 _ hft
      clear N₁
      by_cases hg : fi.f.goal = sE
      · have hb : (fi.f.goal != Str.ofString "") = false := by rw [hg]; decide
        have hpl2 := hW.plain _ hfm hg
        have hend := stp_end hst (.plain (row := rowF) hfm hg)
        have hn2 : n ≤ (filsOf fis).length := by have := endsN_le hW.gf.nd hend; omega
        have hgt : decide (((n : Nat) : Int) > (((fis.map FI.kv).length : Nat) : Int)) = false := by rw [hfl]; exact decide_eq_false (by omega)
        have hxn : x ≠ sN := fun e => by
          have h1 := stp_file hst (by rw [e]; exact fun f hf => (hW.gf.off f hf).2.2.2)
          exact (hW.gf.off _ hfm).2.2.2 (h1.trans e)
        have hxb : (x != Str.ofString "/u/none") = true := by rw [bne_iff_ne]; exact hxn
        have htk9 : TkOn := .mk
        k_steps
        rename Fr _ _ _ _ => F8
        rename News _ _ _ _ => N8
        rename _ ∧ _ ∧ _ ∧ _ ∧ _ ∧ _ ∧ _ ∧ AllLt _ _ => lP
        rename _ ∧ _ ∧ _ ∧ _ ∧ _ ∧ _ ∧ AllLt _ _ => lT
        obtain ⟨n9, p9, hy9, he9, hk9, hv9, N9, hnd9⟩ := packP rfl (news_skip (news_skip N8)) hnd4 (by simp only [List.forall_mem_cons]; exact ⟨lT.2.2.1, lT.2.2.2.1, lT.2.2.2.2.1, lT.2.2.2.2.2.1, ktn_ltOf lT.2.2.2.2.2.2⟩) ⟨lP.1, by simp only [List.forall_mem_cons]; exact ⟨lP.2.2.2.1, lP.2.2.2.2.1, lP.2.2.2.2.2.1, lP.2.2.2.2.2.2.1, ktn_ltOf lP.2.2.2.2.2.2.2⟩⟩
        have hT9 := (hT.more (nw' := p9.obj :: n9.obj :: tl) (fun p hp => .tail _ (.tail _ hp))).put hy9 hk9 hv9 (by rw [he9]; exact ⟨_, hend⟩) (node_of hxm hxn) (.tail _ (.head _)) (.head _)
        rw [← htk] at hT9
        exact TurnEnd.fin (.inl rfl) F8 N9 (nd_cons.mp hnd9).1 ⟨rb, _, _, _, _, _, _, _, _, hT9, dP, fun p hp => .tail _ (.tail _ (hsub p hp)), (nd_cons.mp hnd9).2, map_end (by decide) (by decide) (by decide), rfl⟩
      · have hb : (fi.f.goal != Str.ofString "") = true := by rw [bne_iff_ne]; exact hg
        by_cases hle : n ≤ (filsOf fis).length
        · have hle2 : decide (((n : Nat) : Int) ≤ (((fis.map FI.kv).length : Nat) : Int)) = true := by rw [hfl]; exact decide_eq_true (by exact_mod_cast hle)
          have htk9 : TkOn := .mk
          k_steps
          rename Fr _ _ _ _ => F8
          rename News _ _ _ _ => N8
          exact step2_next (.inl rfl) F8 (cb_drop N8 (fun q hq => .tail _ (.tail _ hq))) (by omega) ⟨n + 1, fi.f.goal, _, _, rfl, by omega, .succ hst hfm hg, rfl, map_step⟩
        · have hle2 : decide (((n : Nat) : Int) ≤ (((fis.map FI.kv).length : Nat) : Int)) = false := by rw [hfl]; exact decide_eq_false (by omega)
          have hbad : Bad rowF (filsOf fis) x := stp_long hW.gf.nd hst (by omega)
          have hgt : decide (((n : Nat) : Int) > (((fis.map FI.kv).length : Nat) : Int)) = true := by rw [hfl]; exact decide_eq_true (by omega)
          have htk9 : TkOn := .mk
          k_steps
          rename Fr _ _ _ _ => F8
          rename News _ _ _ _ => N8
          have hT9 := hT.bad hbad
          rw [← htk] at hT9
          exact TurnEnd.fin (.inl rfl) F8 (cb_drop N8 (fun q hq => .tail _ (.tail _ hq))) (nd_offT hnd4 rfl) ⟨true, _, _, _, _, _, _, _, _, hT9, dP, hsub, nd_keys hnd rfl, map_end2 (by decide) (by decide) (by decide), rfl⟩
    · have hv2 := fi_none hff
      have N10 := news_dup N₁ (p := (d, od)) (by simp [hdt])
      have g1 : d ≠ lE := eR1 _ hdt
      clear N₁
      have hend := stp_end hst (.none (row := rowF) fun f hf e => hff ⟨f, hf, e⟩)
      have hn2 : n ≤ (filsOf fis).length := by have := endsN_le hW.gf.nd hend; omega
      have hgt : decide (((n : Nat) : Int) > (((fis.map FI.kv).length : Nat) : Int)) = false := by rw [hfl]; exact decide_eq_false (by omega)
      by_cases hxn : x = sN
      · have hxb : (x != Str.ofString "/u/none") = false := by rw [hxn]; decide
        have htk9 : TkOn := .mk
        k_steps
        refine Held.of ?_
        rename Fr _ _ _ _ => F5
        rename News _ _ _ _ => N5
        k_dflt (refine srcKeysTM (fun L0 i ys nw => nw = L0 ∧ ∃ ks : List (Str × Tok), ys = strValues ks ∧ ks.map (·.1) = ((fis.take i).filter fun f => decide (f.f.goal = sN)).map (·.f.name)) rfl F5 N5 hlow (.head _) hd (le_line hlen) ⟨rfl, [], rfl, rfl⟩ ?stepL ?finL)
        case stepL =>
          intro i v I2 oI C oC2 D m₂ h tk E' ys nw hi hp914 hp915 hns hmx F6 N6 hoff hne2
          refine Classical.byContradiction fun hn9 => ?_
          obtain ⟨k, u2, hk, hkv⟩ := hp914
          obtain ⟨rfl, ks, rfl, hks⟩ := hp915
          refine hn9 ?_
          clear hn9
          obtain ⟨fi, hfi9, tn, rfl⟩ : ∃ fi, fis[i]? = some fi ∧ ∃ t, v = .str fi.f.name t := by
            rw [List.getElem?_map] at hk
            cases q : fis[i]? with
            | none => rw [q] at hk; cases hk
            | some n => rw [q] at hk; cases hk; exact ⟨n, rfl, str_of hkv⟩
          have hfi := List.mem_of_getElem? hfi9
          have hv3 := fi_val hF hfi
          have hft := hsub _ (.tail _ (hF.tup fi hfi))
          unfold FI.obj at hft
          have hst2 := flt_step hfi9
          have N7 := news_dup (news_dup (news_dup (news_dup N6 (p := (fi.ta, { cls := .type "tuple", data := .seq #[.int fi.f.mode fi.tm, .str fi.f.text fi.tt, .str fi.f.goal fi.tg] })) (by simp [hft])) (p := (d, od)) (by simp)) (p := (L' + 1, oB)) (by simp)) (p := (L' + 1 + 1, _)) (.tail _ (.tail _ (.tail _ (.tail _ (.tail _ (.tail _ (.tail _ (.tail _ (.tail _ (.tail _ (.head _)))))))))))
          clear F5 N5 N6
          by_cases hc : fi.f.goal = sN
          · rw [if_pos hc] at hst2
            have hcb : (fi.f.goal == x) = true := by rw [hc, hxn]; decide
            k_steps
            exact LCg.CompEnd.intro (by assumption) (by assumption) _ (fun p hp => .tail _ (.tail _ (.tail _ (.tail _ hp)))) hoff (.head _) ⟨rfl, ks ++ [(fi.f.name, tn)], strValues_snoc _ _ _, by rw [List.map_append, hks, hst2]; rfl⟩
          · rw [if_neg hc, List.append_nil] at hst2
            have hcb : (fi.f.goal == x) = false := by rw [hxn, beq_eq_false_iff_ne]; exact hc
            k_steps
            exact LCg.CompEnd.intro (by assumption) (by assumption) _ (fun p hp => .tail _ (.tail _ (.tail _ (.tail _ hp)))) hoff (.head _) ⟨rfl, ks, rfl, by rw [hst2, hks]⟩
        case finL =>
          intro g ys nw hp93
          refine Classical.byContradiction fun hn9 => ?_
          obtain ⟨rfl, ks, rfl, hks⟩ := hp93
          refine hn9 ?_
          clear hn9
          intro D2 h2 tk2 F4 N4 o4
          clear F5 N5
          rw [List.take_of_length_le (by simp)] at hks
          have hok9 : ∀ p ∈ ks, PyData.strOk p.1 = true := fun p hp => by
            have h1 : p.1 ∈ ks.map (·.1) := List.mem_map_of_mem hp
            rw [hks] at h1
            refine Classical.byContradiction fun hn9 => ?_
            obtain ⟨fi, hfi, e⟩ := List.mem_map.mp h1
            refine hn9 ?_
            clear hn9
            rw [← e]
            exact hW.ok _ (List.mem_map_of_mem (List.mem_filter.mp hfi).1)
          have hend2 : Ends rowF (filsOf fis) x (Str.ofString "none", sE) := ⟨_, hend⟩
          by_cases hN9 : ∃ f ∈ filsOf fis, f.goal = sN
          · have hne9 : (!decide (ks = [])) = true := by
              refine Classical.byContradiction fun hn9 => ?_
              obtain ⟨f, hf, e⟩ := hN9
              refine hn9 ?_
              clear hn9
              refine Classical.byContradiction fun hn9 => ?_
              obtain ⟨fi, hfi, rfl⟩ := fi_of hf
              refine hn9 ?_
              clear hn9
              have : fi.f.name ∈ ks.map (·.1) := by rw [hks]; exact List.mem_map.mpr ⟨fi, List.mem_filter.mpr ⟨hfi, decide_eq_true e⟩, rfl⟩
              cases ks with
              | nil => cases this
              | cons a r => simp
            k_steps
            refine Held.of ?_
            rename Fr _ _ _ _ => F6
            rename News _ _ _ _ => N6
            k_dflt (refine' ne_empty N6 ?ma9 ?mb9 hok9 ?u9 hne9 ?_)
            case ma9 => exact .tail _ (.head _)
            case mb9 => exact .head _
            case u9 => first | ke_room | ktr_units
            have N7 := cb_drop N6 (fun q hq => List.Mem.tail _ (.tail _ hq))
            clear N6
            have htk9 : TkOn := .mk
            k_steps
            rename Fr _ _ _ _ => F8
            rename News _ _ _ _ => N8
            rename _ ∧ _ ∧ _ ∧ _ ∧ _ ∧ _ ∧ AllLt _ _ => lP
            rename _ ∧ _ ∧ _ ∧ _ ∧ _ ∧ AllLt _ _ => lT
            obtain ⟨n9, p9, hy9, he9, hk9, hv9, N9, hnd9⟩ := packP rfl (news_skip N8) hnd4 (by simp only [List.forall_mem_cons]; exact ⟨lT.2.1, lT.2.2.1, lT.2.2.2.1, lT.2.2.2.2.1, ktn_ltOf lT.2.2.2.2.2⟩) ⟨lP.1, by simp only [List.forall_mem_cons]; exact ⟨lP.2.2.1, lP.2.2.2.1, lP.2.2.2.2.1, lP.2.2.2.2.2.1, ktn_ltOf lP.2.2.2.2.2.2⟩⟩
            have hT9 := (hT.more (nw' := p9.obj :: n9.obj :: tl) (fun p hp => .tail _ (.tail _ hp))).put hy9 hk9 hv9 (by rw [he9]; exact hend2) (.inr (.inr (.inr (.inr ⟨hxn, hN9⟩)))) (.tail _ (.head _)) (.head _)
            rw [← htk] at hT9
            exact TurnEnd.fin (.inl rfl) F8 N9 (nd_cons.mp hnd9).1 ⟨rb, _, _, _, _, _, _, _, _, hT9, dP, fun p hp => .tail _ (.tail _ (hsub p hp)), (nd_cons.mp hnd9).2, map_end (by decide) (by decide) (by decide), rfl⟩
          · have hne9 : (!decide (ks = [])) = false := by
              have : ks = [] := by
                cases ks with
                | nil => rfl
                | cons a r =>
                  have : a.1 ∈ ((a :: r).map (·.1)) := .head _
                  rw [hks] at this
                  refine Classical.byContradiction fun hn9 => ?_
                  obtain ⟨fi, hfi, e⟩ := List.mem_map.mp this
                  refine hn9 ?_
                  clear hn9
                  exact absurd ⟨fi.f, List.mem_map_of_mem (List.mem_filter.mp hfi).1, of_decide_eq_true (List.mem_filter.mp hfi).2⟩ hN9
              simp [this]
            k_steps
            refine Held.of ?_
            rename Fr _ _ _ _ => F6
            rename News _ _ _ _ => N6
            k_dflt (refine' ne_empty N6 ?ma8 ?mb8 hok9 ?u8 hne9 ?_)
            case ma8 => exact .tail _ (.head _)
            case mb8 => exact .head _
            case u8 => first | ke_room | ktr_units
            have N7 := cb_drop N6 (fun q hq => List.Mem.tail _ (.tail _ hq))
            clear N6
            have htk9 : TkOn := .mk
            k_steps
            rename Fr _ _ _ _ => F8
            rename News _ _ _ _ => N8
            have hnn : ¬ Node (filsOf fis) x := by
              rw [hxn]
              rintro (h | h | h | ⟨f, hf, e⟩ | ⟨_, h⟩)
              · exact absurd h (by decide)
              · exact absurd h (by decide)
              · exact absurd h (by decide)
              · exact (hW.gf.off f hf).2.2.2 e
              · exact hN9 h
            have hT9 := hT.skip ⟨_, hend2⟩ hnn
            rw [← htk] at hT9
            exact TurnEnd.fin (.inl rfl) F8 (cb_drop N8 (fun q hq => .tail _ hq)) (nd_offT hnd4 rfl) ⟨rb, _, _, _, _, _, _, _, _, hT9, dP, hsub, nd_keys hnd rfl, map_end (by decide) (by decide) (by decide), rfl⟩
      · have hxb : (x != Str.ofString "/u/none") = true := by rw [bne_iff_ne]; exact hxn
        have htk9 : TkOn := .mk
        k_steps
        rename Fr _ _ _ _ => F8
        rename News _ _ _ _ => N8
        rename _ ∧ _ ∧ _ ∧ _ ∧ _ ∧ _ ∧ AllLt _ _ => lP
        rename _ ∧ _ ∧ _ ∧ _ ∧ _ ∧ AllLt _ _ => lT
        obtain ⟨n9, p9, hy9, he9, hk9, hv9, N9, hnd9⟩ := packP rfl (news_skip N8) hnd4 (by simp only [List.forall_mem_cons]; exact ⟨lT.2.1, lT.2.2.1, lT.2.2.2.1, lT.2.2.2.2.1, ktn_ltOf lT.2.2.2.2.2⟩) ⟨lP.1, by simp only [List.forall_mem_cons]; exact ⟨lP.2.2.1, lP.2.2.2.1, lP.2.2.2.2.1, lP.2.2.2.2.2.1, ktn_ltOf lP.2.2.2.2.2.2⟩⟩
        have hT9 := (hT.more (nw' := p9.obj :: n9.obj :: tl) (fun p hp => .tail _ (.tail _ hp))).put hy9 hk9 hv9 (by rw [he9]; exact ⟨_, hend⟩) (node_of hxm hxn) (.tail _ (.head _)) (.head _)
        rw [← htk] at hT9
        exact TurnEnd.fin (.inl rfl) F8 N9 (nd_cons.mp hnd9).1 ⟨rb, _, _, _, _, _, _, _, _, hT9, dP, fun p hp => .tail _ (.tail _ (hsub p hp)), (nd_cons.mp hnd9).2, map_end (by decide) (by decide) (by decide), rfl⟩
  case done =>
    intro m₁ nw h tk hp94 F₁ N₁
    refine Classical.byContradiction fun hn9 => ?_
    obtain ⟨rb, ens, ps, c, oP, vP, tl, u1, u2, hT, hoP, hsub, hnd, rfl, rfl⟩ := hp94
    refine hn9 ?_
    clear hn9
    clear F2 N4 hnd4
    have hvl : (strValues ks2).length = (toldL (filsOf fis)).length := by
      have := congrArg List.length hvs
      rw [List.length_map] at this
      simp [strValues, this]
    rw [hvl, List.take_of_length_le (Nat.le_refl _)] at hT
    have hkn : (ps.map (·.key)).Nodup := by rw [hT.ky]; exact List.Sublist.nodup hT.sub (told_nd hW.gf)
    have hkl : ps.length ≤ 14 := by
      have h1 := congrArg List.length hT.ky
      have h2 := hT.sub.length_le
      have h3 := hW.len
      simp only [List.length_map, toldL, List.length_append, List.length_cons, List.length_nil] at h1 h2
      omega
    have hk2 : 2 ≤ ps.length := by
      have h0 : ∀ y, y = sR ∨ y = sU → y ∈ ps.map (·.key) := fun y hy => by
        have hoff : ∀ f ∈ filsOf fis, f.name ≠ y := fun f hf => by
          rcases hy with rfl | rfl
          · exact (hW.gf.off f hf).1
          · exact (hW.gf.off f hf).2.1
        have hny : Node (filsOf fis) y := by
          rcases hy with rfl | rfl
          · exact .inl rfl
          · exact .inr (.inl rfl)
        refine Classical.byContradiction fun hn9 => ?_
        obtain ⟨n, hn, e⟩ := hT.all y (node_told hny) hny ⟨_, 0, .none hoff⟩
        refine hn9 ?_
        clear hn9
        rw [hT.ky, ← e]
        exact List.mem_map_of_mem hn
      have := len_sub (l := [sR, sU]) (l' := ps.map (·.key)) (by decide) (by
        intro y hy
        simp only [List.mem_cons, List.not_mem_nil, or_false] at hy
        exact h0 y hy)
      simpa using this
    k_steps
    refine Held.of ?_
    rename Fr _ _ _ _ => F5
    rename News _ _ _ _ => N5
    k_dflt (refine sorted_pe (ps := ps) F5 N5 (.head _) (fun p hp => .tail _ (.tail _ (.tail _ (hT.po p hp)))) hkn hk2 (by omega) ?srt)
    intro D3 e3 h3 tk3 qs hqp hqs F6 N6 o6
    clear N5 F5
    k_steps
    rename Fr h₀ _ _ _ => kF
    rename News h₀ _ _ _ => kN
    (try dsimp only at kN)
    have hend := told_end kN hW.gf (hT.more (fun p hp => .tail _ (.tail _ (.tail _ hp)))) hqp hqs
    exact hret _ _ _ _ _ ⟨hend, fun p hp => .tail _ (.tail _ (.tail _ (.tail _ (.tail _ (hsub p (.tail _ hp))))))⟩ KtsTurn.refl kF kN B X T D
end Mine
-- DwJ
open PySem PySem.W PySem.Calls PyProof.Rows
namespace Mine

open LCg
noncomputable def TellP (w : World) (mean : ExcName → Option Value) (mg mb : Str → Option Value) (D U : Nat) (f : Addr) (args : List Value) (news : Led) (P : Heap → Prop) (Post : Value → Led → Prop) : Prop :=
  ∀ (dp un : Nat) (gd : Option (List Code)) (cn : Str) (cs : Scope) (a : Addr) (ccd : Value) (cl : List (Str × Addr)) (outer : List Env) (A₀ : Around) (base h₀ : Heap) (L : Addr) (m : Str → Option Value) (s : Shared) (Q E : Value → Shared → Prop),
    P h₀ → Below A₀ base outer h₀ → Fr h₀ L s.heap m → (hd.heap_39 w.params).In h₀ → News h₀ L s.heap news → Top hd.view_39 (looseW hd.view_39 [Str.ofString "_NodeInfo", Str.ofString "_filemode_table"]) mean mg mb h₀ → cs.kind = .function →
    dp + D < recursionLimit → un + U < cLine →
    (∀ v news' h' tk', Post v news' → Fr h₀ L h' m → News h₀ L h' news' → Q v { s with heap := h', toks := tk' }) →
    wpAny (model PySem.Challenge.rw_pd0160_01.row.prog w) (ktrTop dp un gd cn cs L a ccd cl outer) (call (.ref f) args) Q E s
theorem isList_up {h₀ g : Heap} {L l : Addr} {m : Str → Option Value} {vs : Array Value} (F : Fr h₀ L g m) (hl : h₀.IsList l vs) : g.IsList l vs := by
  refine Classical.byContradiction fun hn9 => ?_
  obtain ⟨o, ho, r⟩ := hl
  refine hn9 ?_
  clear hn9
  exact ⟨o, F.keep _ _ ho, r⟩
section
variable {prog : Program} {w : World} {A : Around} {E : Value → Shared → Prop} {s : Shared} {h₀ : Heap} {L : Addr} {m : Str → Option Value} {env : Env} {elt : PySem.Expr} {x : Str} {scope : Scope} {cl : List (Str × Addr)} {Fin : Shared → List Value → Led → Prop} {news : Led}
theorem compRangeM {r : Addr} {t u v : Tok} {n : Nat} (Inv : Led → Nat → List Value → Led → Prop) (hh : A.handled = none) (F : Fr h₀ L s.heap m) (N : News h₀ L s.heap news) (hr : IsRange s.heap r 0 n 1 t u v) (hn : n ≤ 1000) (h0 : Inv news 0 [] news)
    (step : StepU prog w A s h₀ L m env elt x scope cl (fun _ => True) (fun i v => ∃ t, v = .int i t) n (Inv news)) (fin : ∀ g ys nw, Inv news n ys nw → Fin { s with heap := g } ys nw) :
    CompSrc prog w A h₀ L m env elt x scope cl Fin (.ref r) s :=
  CompSrc.range hh F N hr (range_small n (Nat.le_trans hn (by decide))) (range_size n) (Nat.le_trans hn (by rw [sizeLine_eq]; decide)) fun g =>
    restU (s := { s with heap := g }) (P := fun i v => ∃ t, v = .int (0 + (i : Int)) t) (Inv news) (fun i v I oI C oC D m₂ h tk E' ys nw hi hP => step i v I oI C oC D m₂ h tk E' ys nw hi (by obtain ⟨t, rfl⟩ := hP; exact ⟨t, by simp⟩)) (fin g) n 0 [] news (Nat.zero_add _) h0
end
theorem strs_are : ∀ ks : List (Str × Tok), StrsAre (strValues ks) (ks.map (·.1))
  | [] => .nil
  | p :: r => .cons p.1 p.2 (strs_are r)
section
variable {prog : Program} {w : World} {A : Around} {E : Value → Shared → Prop} {s : Shared} {h₀ : Heap} {L l : Addr} {news : Led} {value slice : PySem.Expr} {i : Int} {u : Tok} {n : Nat} {Q : Value → Shared → Prop}
theorem item3 {a b c : Str} {t1 t2 t3 : Tok} (N : News h₀ L s.heap news) (hm : (l, listOf #[.str a t1, .str b t2, .str c t3] n) ∈ news) (h0 : 0 ≤ i) (h1 : i < 3) (h : ∀ t', Q (.str ([a, b, c].getD i.toNat PySem.Str.empty) t') s)
    (hs : subscripted slice false (.ref l) (.int i u) = operate [.ref l, .int i u] (getItem (.ref l) (.int i u)) := by with_unfolding_all rfl) : wpAny (model prog w) A (subscriptTail value slice (.ref l) (.int i u)) Q E s :=
  KTb.item_list (vs := [.str a t1, .str b t2, .str c t3]) (ws := [a, b, c]) (News.isList N hm) (.cons _ _ (.cons _ _ (.cons _ _ .nil))) h0 (by simpa using h1) (by omega) (fun t' _ => h t') hs
theorem item4 {a b c d : Str} {t1 t2 t3 t4 : Tok} (N : News h₀ L s.heap news) (hm : (l, listOf #[.str a t1, .str b t2, .str c t3, .str d t4] n) ∈ news) (h0 : 0 ≤ i) (h1 : i < 4) (h : ∀ t', Q (.str ([a, b, c, d].getD i.toNat PySem.Str.empty) t') s)
    (hs : subscripted slice false (.ref l) (.int i u) = operate [.ref l, .int i u] (getItem (.ref l) (.int i u)) := by with_unfolding_all rfl) : wpAny (model prog w) A (subscriptTail value slice (.ref l) (.int i u)) Q E s :=
  KTb.item_list (vs := [.str a t1, .str b t2, .str c t3, .str d t4]) (ws := [a, b, c, d]) (News.isList N hm) (.cons _ _ (.cons _ _ (.cons _ _ (.cons _ _ .nil)))) h0 (by simpa using h1) (by omega) (fun t' _ => h t') hs
theorem itemI2 {a b : Int} {t1 t2 : Tok} (N : News h₀ L s.heap news) (hm : (l, listOf #[.int a t1, .int b t2] n) ∈ news) (h0 : 0 ≤ i) (h1 : i < 2) (h : ∀ t', Q (.int ([a, b].getD i.toNat 0) t') s)
    (hs : subscripted slice false (.ref l) (.int i u) = operate [.ref l, .int i u] (getItem (.ref l) (.int i u)) := by with_unfolding_all rfl) : wpAny (model prog w) A (subscriptTail value slice (.ref l) (.int i u)) Q E s :=
  item_anyK (vs := [.int a t1, .int b t2]) (ns := [a, b]) (News.isList N hm) (.cons _ _ (.cons _ _ .nil)) h0 (by simpa using h1) (by omega) h hs
theorem itemKs {ks : List (Str × Tok)} {xs : List Str} (N : News h₀ L s.heap news) (hm : (l, listOf (strValues ks).toArray n) ∈ news) (hk : ks.map (·.1) = xs) (h0 : 0 ≤ i) (h1 : i < xs.length) (hz : xs.length ≤ 100) (h : ∀ t', Q (.str (xs.getD i.toNat PySem.Str.empty) t') s)
    (hs : subscripted slice false (.ref l) (.int i u) = operate [.ref l, .int i u] (getItem (.ref l) (.int i u)) := by with_unfolding_all rfl) : wpAny (model prog w) A (subscriptTail value slice (.ref l) (.int i u)) Q E s := by
  subst hk
  exact KTb.item_list (vs := strValues ks) (ws := ks.map (·.1)) (News.isList N hm) (strs_are ks) h0 h1 (by omega) (fun t' _ => h t') hs
theorem add1 {m : Str → Option Value} {a b : Addr} {ks : List (Str × Tok)} {c c2 : Nat} {x1 : Str} {t1 : Tok} {xs : List Str} (F : Fr h₀ L s.heap m) (N : News h₀ L s.heap news)
    (ha : (a, listOf (strValues ks).toArray c) ∈ news) (hb : (b, listOf #[.str x1 t1] c2) ∈ news) (hk : ks.map (·.1) = xs) (hn : xs.length ≤ 100)
    (h : ∀ D h' ks', ks'.map (·.1) = xs ++ [x1] → Fr h₀ L h' m → News h₀ L h' ((D, listOf (strValues ks').toArray 0) :: news) → (∀ p ∈ news, p.1 < D) → Q (.ref D) { s with heap := h' }) :
    wpAny (model prog w) A (binaryOp .Add (.ref a) (.ref b)) Q E s := by
  have hl : ks.length = xs.length := by simpa using congrArg List.length hk
  refine kmk_add_lit (zs := strValues (ks ++ [(x1, t1)])) F N (News.isList N ha) (News.isList N hb) (by simp [strValues]) (fun D h' F' N' l1 => h D h' _ (by rw [List.map_append, hk]; rfl) F' N' l1) ?_
  rw [sizeLine_eq]
  simp [strValues]
  omega
end
/-- the k-th path -/
noncomputable def nmF (k : Nat) : Str := joinF ([Str.ofString "/", Str.ofString "/u", Str.ofString "/u/v"].getD (Int.fmod (k : Int) 3).toNat PySem.Str.empty) (Txt.item (Str.ofString "abcdefghij") (k : Int))
theorem news_first {g h : Heap} {L : Addr} {p : Addr × Obj} {r : Led} (N : News g L h (p :: r)) : News g L h [p] := cb_drop N fun q hq => by rw [List.mem_singleton.mp hq]; exact .head _
/-- where the k-th file's link leads -/
noncomputable def goalF (n : Nat) (x : Int) : Str := ((List.range n).map nmF ++ [Str.ofString "/u/none"]).getD (Int.fmod (Int.fdiv x 3) ((n : Int) + 1)).toNat PySem.Str.empty
noncomputable def textF (n : Nat) (x : Int) (k : Nat) : Str :=
  Txt.mul (Str.ofString "../") (Int.fmod (k : Int) 3 + Int.fmod (Int.fdiv x 33) 3) ++ [Str.ofString "", Str.ofString "./", Str.ofString ".//", Str.ofString "z/../"].getD (Int.fmod (Int.fdiv x 99) 4).toNat PySem.Str.empty ++ Txt.slice (goalF n x) (some 1) none ++ Txt.mul (Str.ofString "/") (Int.fmod (Int.fdiv x 3) 2)
noncomputable def drawnF (n : Nat) (x : Int) (k : Nat) : Fil :=
  if Int.fmod x 3 == 0 then ⟨nmF k, [32768, 8192].getD (Int.fmod (Int.fdiv x 3) 2).toNat 0 + Int.fmod (Int.fdiv x 3 + 455 * ((k : Int) + 1)) 4096, Str.ofString "", Str.ofString ""⟩
  else if Int.fmod x 3 == 1 then ⟨nmF k, 40960 + 511, goalF n x, goalF n x⟩ else ⟨nmF k, 40960 + 511, textF n x k, goalF n x⟩
inductive JDrawn (w : World) (n : Nat) (xs : List Int) (dF : Addr) (p1 p2 : Addr × Obj) (m₀ : Str → Option Value) (i : Nat) (m : Str → Option Value) (nw : Led) : Prop
  | mk (fis : _)
    (od : _)
    (tl : _)
    (u1 : _)
    (u2 : _)
    (u3 : _)
    (u4 : _)
    (hz0 : od.IsDictOf (strKind PySem.Challenge.rw_pd0160_01.row.prog w) (fis.map FI.kv))
    (hz1 : filsOf fis = (List.range i).map (fun k => drawnF n (xs.getD k 0) k))
    (hz2 : (∀ fi ∈ fis, fi.obj ∈ tl))
    (hz3 : ND nw)
    (hz4 : m = (fun y => if y = Str.ofString "text" then u1 else if y = Str.ofString "goal" then u2 else if y = Str.ofString "x" then u3 else if y = Str.ofString "place" then u4 else m₀ y))
    (hz5 : nw = (dF, od) :: p1 :: p2 :: tl)
section
variable {prog : Program} {w : World} {A : Around} {E : Value → Shared → Prop} {s : Shared} {h₀ : Heap} {L l : Addr} {news : Led} {value slice : PySem.Expr} {u : Tok} {c : Nat} {Q : Value → Shared → Prop}
theorem itemNum {ws : List Value} {xs : List Int} {i : Nat} {x : Int} (N : News h₀ L s.heap news) (hm : (l, listOf ws.toArray c) ∈ news) (hI : IntsAre ws xs) (hlt : i < xs.length) (hz : xs.length ≤ 100) (hx : xs.getD i 0 = x) (h : ∀ t', Q (.int x t') s)
    (hs : subscripted slice false (.ref l) (.int (i : Int) u) = operate [.ref l, .int (i : Int) u] (getItem (.ref l) (.int (i : Int) u)) := by with_unfolding_all rfl) : wpAny (model prog w) A (subscriptTail value slice (.ref l) (.int (i : Int) u)) Q E s :=
  item_anyK (News.isList N hm) hI (by omega) (by exact_mod_cast hlt) (by omega) (fun t => by rw [Int.toNat_natCast, hx]; exact h t) hs
theorem itemNm {ks : List (Str × Tok)} {i n : Nat} (N : News h₀ L s.heap news) (hm : (l, listOf (strValues ks).toArray c) ∈ news) (hk : ks.map (·.1) = (List.range n).map nmF) (hlt : i < n) (hz : n ≤ 10) (h : ∀ t', Q (.str (nmF i) t') s)
    (hs : subscripted slice false (.ref l) (.int (i : Int) u) = operate [.ref l, .int (i : Int) u] (getItem (.ref l) (.int (i : Int) u)) := by with_unfolding_all rfl) : wpAny (model prog w) A (subscriptTail value slice (.ref l) (.int (i : Int) u)) Q E s := by
  have hl : (ks.map (·.1)).length = n := by rw [hk]; simp
  refine KTb.item_list (vs := strValues ks) (ws := ks.map (·.1)) (News.isList N hm) (strs_are ks) (by omega) (by rw [hl]; exact_mod_cast hlt) (by omega) (fun t' _ => ?_) hs
  have : (ks.map (·.1)).getD ((i : Int)).toNat PySem.Str.empty = nmF i := by
    rw [hk, Int.toNat_natCast, List.getD_eq_getElem?_getD, List.getElem?_map, List.getElem?_range hlt]
    rfl
  rw [this]
  exact h t'
theorem itemGoal {ks : List (Str × Tok)} {x : Int} {n : Nat} (N : News h₀ L s.heap news) (hm : (l, listOf (strValues ks).toArray c) ∈ news) (hk : ks.map (·.1) = (List.range n).map nmF ++ [Str.ofString "/u/none"]) (hz : n ≤ 10) (h : ∀ t', Q (.str (goalF n x) t') s)
    (hs : subscripted slice false (.ref l) (.int (Int.fmod (Int.fdiv x 3) ((n : Int) + 1)) u) = operate [.ref l, .int (Int.fmod (Int.fdiv x 3) ((n : Int) + 1)) u] (getItem (.ref l) (.int (Int.fmod (Int.fdiv x 3) ((n : Int) + 1)) u)) := by with_unfolding_all rfl) :
    wpAny (model prog w) A (subscriptTail value slice (.ref l) (.int (Int.fmod (Int.fdiv x 3) ((n : Int) + 1)) u)) Q E s := by
  have hl : (ks.map (·.1)).length = n + 1 := by rw [hk]; simp
  have h0 := Int.fmod_nonneg_of_pos (Int.fdiv x 3) (b := (n : Int) + 1) (by omega)
  have h1 := Int.fmod_lt_of_pos (Int.fdiv x 3) (b := (n : Int) + 1) (by omega)
  refine KTb.item_list (vs := strValues ks) (ws := ks.map (·.1)) (News.isList N hm) (strs_are ks) h0 (by rw [hl]; push_cast; exact h1) (by omega) (fun t' _ => ?_) hs
  rw [hk]
  exact h t'
end
theorem iterRangeM {prog : Program} {w : World} {A : Around} {E : Value → Shared → Prop} {s : Shared} {env : Env} {h₀ : Heap} {x : Str} {body : List Stmt} {Q : Flow → Shared → Prop} {r : Addr} {t u v : Tok} {n : Nat} {m₀ : Str → Option Value} {news : Led} (J : (Str → Option Value) → Nat → (Str → Option Value) → Led → Prop)
    (hh : A.handled = none) (F : Fr h₀ env.locals s.heap m₀) (N : News h₀ env.locals s.heap news) (hr : IsRange s.heap r 0 n 1 t u v) (hn : n ≤ 1000000) (h0 : J m₀ 0 m₀ news)
    (turn : TurnOf prog w A E s env h₀ x body Q n (fun i v => ∃ t, v = .int i t) (J m₀)) (done : DoneOf s env h₀ Q n (J m₀)) :
    wpAny (model prog w) A (pyIter (.ref r)) (fun it s₂ => LoopAtV prog w A h₀ env x body Q E it s₂) E s := iterRange (J m₀) hh F N hr hn h0 turn done
theorem map_four4 {m₀ : Str → Option Value} {a b c d : Str} : m₀ = fun y => if y = a then m₀ a else if y = b then m₀ b else if y = c then m₀ c else if y = d then m₀ d else m₀ y := by
  funext y
  by_cases h1 : y = a
  · rw [if_pos h1, h1]
  · rw [if_neg h1]
    by_cases h2 : y = b
    · rw [if_pos h2, h2]
    · rw [if_neg h2]
      by_cases h3 : y = c
      · rw [if_pos h3, h3]
      · rw [if_neg h3]
        by_cases h4 : y = d
        · rw [if_pos h4, h4]
        · rw [if_neg h4]
theorem nd3 {g h : Heap} {L : Addr} {a b c : Addr × Obj} (_N : News g L h [a, b, c]) (h1 : b.1 < a.1 ∧ c.1 < a.1) (h2 : Off1 b.1 [c]) : ND [a, b, c] := by
  simp only [nd_cons, List.forall_mem_cons]
  exact ⟨⟨Nat.ne_of_lt h1.1, Nat.ne_of_lt h1.2, fun _ h => nomatch h⟩, ⟨h2.1, fun _ h => nomatch h⟩, ⟨fun _ h => (nomatch h), List.nodup_nil⟩⟩
theorem drawnF_name (n : Nat) (x : Int) (k : Nat) : (drawnF n x k).name = nmF k := by
  unfold drawnF
  split
  · rfl
  · split <;> rfl
theorem nm_inj : ∀ a, a < 10 → ∀ b, b < 10 → nmF a = nmF b → a = b := by decide +kernel
theorem dr_off {n : Nat} {xs : List Int} {fis : List FI} {i : Nat} (hfs : filsOf fis = (List.range i).map (fun k => drawnF n (xs.getD k 0) k)) (hi : i < 10) : valueAt (fis.map FI.kv) (nmF i) = none := by
  cases q : valueAt (fis.map FI.kv) (nmF i) with
  | none => rfl
  | some v =>
    refine Classical.byContradiction fun hn9 => ?_
    obtain ⟨fi, hfi, e⟩ := List.mem_map.mp (valueAt_mem q)
    refine hn9 ?_
    clear hn9
    have h1 : fi.f ∈ filsOf fis := List.mem_map_of_mem hfi
    rw [hfs] at h1
    refine Classical.byContradiction fun hn9 => ?_
    obtain ⟨k, hk, e2⟩ := List.mem_map.mp h1
    refine hn9 ?_
    clear hn9
    have h2 : nmF k = nmF i := by
      rw [← drawnF_name n (xs.getD k 0) k, e2]
      exact (Prod.mk.inj e).1
    have hk' := List.mem_range.mp hk
    have := nm_inj k (by omega) i hi h2
    omega
theorem packF {w : World} {n : Nat} {x : Int} {i : Nat} {g h : Heap} {L T I dF : Addr} {io od od' : Obj} {p1 p2 : Addr × Obj} {tl nw : Led} {fis : List FI} {md : Int} {tx gl : Str} {tm tt tg : Tok} (N : News g L h nw)
    (hT : (T, { cls := .type "tuple", data := .seq #[.int md tm, .str tx tt, .str gl tg] }) ∈ nw) (hb : ∀ q ∈ (I, io) :: (dF, od') :: p1 :: p2 :: tl, q ∈ nw) (hnd : ND ((I, io) :: (dF, od) :: p1 :: p2 :: tl)) (lt : ∀ q ∈ (I, io) :: (dF, od) :: p1 :: p2 :: tl, q.1 < T)
    (hdr : drawnF n x i = ⟨nmF i, md, tx, gl⟩) (hod : od'.IsDictOf (strKind PySem.Challenge.rw_pd0160_01.row.prog w) (stored (fis.map FI.kv) (nmF i) (.ref T))) (hoff : valueAt (fis.map FI.kv) (nmF i) = none) :
    ∃ fi : FI, fi.f = drawnF n x i ∧ News g L h ((I, io) :: (dF, od') :: p1 :: p2 :: fi.obj :: tl) ∧ ND ((I, io) :: (dF, od') :: p1 :: p2 :: fi.obj :: tl) ∧ od'.IsDictOf (strKind PySem.Challenge.rw_pd0160_01.row.prog w) ((fis ++ [fi]).map FI.kv) := by
  rw [stored_new hoff] at hod
  refine ⟨⟨drawnF n x i, T, tm, tt, tg⟩, rfl, cb_drop N fun q hq => ?_, ?_, ?_⟩
  · simp only [List.mem_cons] at hq
    have hb' := fun q hq => hb q hq
    rcases hq with h | h | h | h | h | h
    · exact hb q (by rw [h]; exact .head _)
    · exact hb q (by rw [h]; exact .tail _ (.head _))
    · exact hb q (by rw [h]; exact .tail _ (.tail _ (.head _)))
    · exact hb q (by rw [h]; exact .tail _ (.tail _ (.tail _ (.head _))))
    · rw [h]
      unfold FI.obj
      rw [hdr]
      exact hT
    · exact hb q (.tail _ (.tail _ (.tail _ (.tail _ h))))
  · have h1 : ND ((T, io) :: (I, io) :: (dF, od) :: p1 :: p2 :: tl) := nd_cons.mpr ⟨fun q hq => Nat.ne_of_lt (lt q hq), hnd⟩
    have h2 : ((T, io) :: (I, io) :: (dF, od) :: p1 :: p2 :: tl).Perm ((I, io) :: (dF, od) :: p1 :: p2 :: (T, io) :: tl) := by
      have e1 : ((T, io) :: (I, io) :: (dF, od) :: p1 :: p2 :: tl) = [(T, io)] ++ ([(I, io), (dF, od), p1, p2] ++ tl) := rfl
      have e2 : ((I, io) :: (dF, od) :: p1 :: p2 :: (T, io) :: tl) = [(I, io), (dF, od), p1, p2] ++ ([(T, io)] ++ tl) := rfl
      rw [e1, e2]
      exact List.perm_append_comm_assoc _ _ _
    exact nd_keys (ND.perm h1 h2) rfl
  · rw [List.map_append]
    have : FI.kv ⟨drawnF n x i, T, tm, tt, tg⟩ = (nmF i, .ref T) := by
      unfold FI.kv
      rw [drawnF_name]
    rw [List.map_cons, this]
    exact hod
theorem fils_snoc {n : Nat} {xs : List Int} {fis : List FI} {fi : FI} {i : Nat} {x : Int} (hx : xs.getD i 0 = x) (hfs : filsOf fis = (List.range i).map (fun k => drawnF n (xs.getD k 0) k)) (hf : fi.f = drawnF n x i) : filsOf (fis ++ [fi]) = (List.range (i + 1)).map (fun k => drawnF n (xs.getD k 0) k) := by
  rw [List.range_succ, List.map_append, ← hfs]
  unfold filsOf
  rw [List.map_append, List.map_cons, hf, ← hx]
  rfl
theorem map_dr1 {Tx G X P : Str} {a b c u1 u2 u3 u4 : Option Value} {M : Str → Option Value} (h1 : Tx ≠ G) (h2 : Tx ≠ X) (h3 : Tx ≠ P) :
    (fun y => if y = G then a else if y = X then b else if y = P then c else if y = Tx then u1 else if y = G then u2 else if y = X then u3 else if y = P then u4 else M y) = fun y => if y = Tx then u1 else if y = G then a else if y = X then b else if y = P then c else M y := by
  funext y
  by_cases k1 : y = Tx
  · have e1 : y ≠ G := fun e => h1 (k1.symm.trans e)
    have e2 : y ≠ X := fun e => h2 (k1.symm.trans e)
    have e3 : y ≠ P := fun e => h3 (k1.symm.trans e)
    simp only [if_pos k1, if_neg e1, if_neg e2, if_neg e3]
  · by_cases k2 : y = G
    · simp only [if_neg k1, if_pos k2]
    · by_cases k3 : y = X
      · simp only [if_neg k1, if_neg k2, if_pos k3]
      · by_cases k4 : y = P
        · simp only [if_neg k1, if_neg k2, if_neg k3, if_pos k4]
        · simp only [if_neg k1, if_neg k2, if_neg k3, if_neg k4]
theorem map_dr2 {Tx G X P : Str} {d a b c u1 u2 u3 u4 : Option Value} {M : Str → Option Value} :
    (fun y => if y = Tx then d else if y = G then a else if y = X then b else if y = P then c else if y = Tx then u1 else if y = G then u2 else if y = X then u3 else if y = P then u4 else M y) = fun y => if y = Tx then d else if y = G then a else if y = X then b else if y = P then c else M y := by
  funext y
  by_cases k1 : y = Tx
  · simp only [if_pos k1]
  · by_cases k2 : y = G
    · simp only [if_neg k1, if_pos k2]
    · by_cases k3 : y = X
      · simp only [if_neg k1, if_neg k2, if_pos k3]
      · by_cases k4 : y = P
        · simp only [if_neg k1, if_neg k2, if_neg k3, if_pos k4]
        · simp only [if_neg k1, if_neg k2, if_neg k3, if_neg k4]
theorem le_line0 {n : Nat} (h : n ≤ 100) : n ≤ sizeLine := by rw [sizeLine_eq]; omega
theorem nm_len : ∀ k, k < 10 → (nmF k).length ≤ 7 := by decide +kernel
theorem goal_len {n : Nat} (hn : n ≤ 10) (x : Int) : (goalF n x).length ≤ 7 := by
  unfold goalF
  rw [List.getD_eq_getElem?_getD]
  cases q : ((List.range n).map nmF ++ [Str.ofString "/u/none"])[(Int.fmod (Int.fdiv x 3) ((n : Int) + 1)).toNat]? with
  | none => decide
  | some y =>
    show y.length ≤ 7
    rcases List.mem_append.mp (List.mem_of_getElem? q) with h | h
    · refine Classical.byContradiction fun hn9 => ?_
      obtain ⟨k, hk, rfl⟩ := List.mem_map.mp h
      refine hn9 ?_
      clear hn9
      exact nm_len k (by have := List.mem_range.mp hk; omega)
    · rw [List.mem_singleton.mp h]; decide
theorem mulD_len {z : Int} (h0 : 0 ≤ z) (h1 : z ≤ 4) : (Txt.mul (Str.ofString "../") z).length ≤ 12 := by
  have : z = 0 ∨ z = 1 ∨ z = 2 ∨ z = 3 ∨ z = 4 := by omega
  rcases this with rfl | rfl | rfl | rfl | rfl <;> decide +kernel
theorem mulS_len {z : Int} (h0 : 0 ≤ z) (h1 : z < 2) : (Txt.mul (Str.ofString "/") z).length ≤ 1 := by
  have : z = 0 ∨ z = 1 := by omega
  rcases this with rfl | rfl <;> decide +kernel
theorem slice_len1 (x : Str) : (Txt.slice x (some 1) none).length ≤ x.length := PyProof.Txt.length_slice_le _ _ _
theorem mid_len {z : Int} (h0 : 0 ≤ z) (h1 : z < 4) : ([Str.ofString "", Str.ofString "./", Str.ofString ".//", Str.ofString "z/../"].getD z.toNat PySem.Str.empty).length ≤ 5 := by
  have : z.toNat = 0 ∨ z.toNat = 1 ∨ z.toNat = 2 ∨ z.toNat = 3 := by omega
  rcases this with e | e | e | e <;> rw [e] <;> decide
theorem tup_snoc {fis : List FI} {fi : FI} {tl : Led} (h : ∀ f ∈ fis, f.obj ∈ tl) : ∀ f ∈ fis ++ [fi], f.obj ∈ fi.obj :: tl := fun f hf => by
  rcases List.mem_append.mp hf with hf | hf
  · exact .tail _ (h f hf)
  · rw [List.mem_singleton.mp hf]; exact .head _
end Mine
-- Dw
open PySem PySem.W PySem.Calls PyProof.Rows
namespace Mine

open LCg

theorem lines_Dw1 : True := by
  k_with_none
  k_with "k_ne" => (first | with_reducible assumption | exact Ne.symm (by with_reducible assumption) | (refine neN ?_; (try dsimp only); first | with_reducible assumption | exact Ne.symm (by with_reducible assumption) | exact Nat.ne_of_lt (by with_reducible assumption) | exact Nat.ne_of_gt (by with_reducible assumption) | exact nl0 (by with_reducible assumption) | exact ng0 (by with_reducible assumption) | exact nl1 (by with_reducible assumption) | exact ng1 (by with_reducible assumption) | exact nl2 (by with_reducible assumption) | exact ng2 (by with_reducible assumption) | exact nl3 (by with_reducible assumption) | exact ng3 (by with_reducible assumption) | exact nl4 (by with_reducible assumption) | exact ng4 (by with_reducible assumption) | exact nl5 (by with_reducible assumption) | exact ng5 (by with_reducible assumption) | exact nl6 (by with_reducible assumption) | exact ng6 (by with_reducible assumption) | exact nl7 (by with_reducible assumption) | exact ng7 (by with_reducible assumption) | exact nl8 (by with_reducible assumption) | exact ng8 (by with_reducible assumption) | exact nl9 (by with_reducible assumption) | exact ng9 (by with_reducible assumption) | omega))
  k_with "room" => (first | exact room0 (by with_reducible assumption) | exact room1 (by with_reducible assumption) (by decide) | exact room2 (by with_reducible assumption) (by decide) | exact room3 (by with_reducible assumption) (by decide))
  k_with "units" => (first | exact unit0 (by with_reducible assumption) | exact unit1 (by with_reducible assumption) (by decide) | exact unit2 (by with_reducible assumption) (by decide) | exact unit3 (by with_reducible assumption) (by decide))
  k_with "om" => (first | with_reducible assumption | with_reducible exact le_lit (by with_reducible assumption) (by decide) | with_reducible exact add_lit (by with_reducible assumption) (by with_reducible assumption) (by with_reducible assumption) (by decide) | with_reducible exact lt_lel (by with_reducible assumption) (by decide) | with_reducible exact sum_lit (by with_reducible assumption) (by with_reducible assumption) (by decide) | with_reducible exact suc_lit (by with_reducible assumption) (by decide) | with_reducible exact lt_lit (by with_reducible assumption) (by decide) | with_reducible exact le_ltl (by with_reducible assumption) (by decide) | with_reducible exact ige_lit (by with_reducible assumption) (by decide) | with_reducible exact ile_lit (by with_reducible assumption) (by decide) | with_reducible exact ilt_lit (by with_reducible assumption) (by decide) | omega)
  k_with "execs cons" => (k_here; k_fold)
  k_with "execs cons" => (k_here; (with_reducible show wpAny _ _ _ _ _ (Shared.mk _ _ _ (_ + _) _)); refine toks_all ?_; intro tk; (try dsimp only))
  k_with "execs nil" => (k_here; (with_reducible show wpAny _ _ _ _ _ (Shared.mk _ _ _ (_ + _) _)); refine toks_all ?_; intro tk; (try dsimp only))
  k_with "eval BinOp" => (k_here; k_fold)
  k_with "eval Call Attribute" => (k_here; k_fold)
  k_with "eval Call Name" => (k_here; k_fold)
  k_with "eval Call" => (k_here; k_fold)
  k_with "eval Subscript" => (k_here; k_fold)
  k_with "eval Compare" => (k_here; k_fold)
  k_with "eval IfExp" => (k_here; k_fold)
  k_with "eval List" => (k_here; k_fold)
  k_with "eval Tuple" => (k_here; k_fold)
  k_with "k_all" => (first | exact allLt_ne (by assumption) | assumption | (intro p9 hp9; refine neN ?_; have h9 := ltN (ktn_ltOf (by first | assumption | exact (show _ ∧  AllLt _ _ by assumption).2 | exact (show _ ∧ _ ∧  AllLt _ _ by assumption).2.2 | exact (show _ ∧ _ ∧ _ ∧  AllLt _ _ by assumption).2.2.2 | exact (show _ ∧ _ ∧ _ ∧ _ ∧  AllLt _ _ by assumption).2.2.2.2 | exact (show _ ∧ _ ∧ _ ∧ _ ∧ _ ∧  AllLt _ _ by assumption).2.2.2.2.2 | exact (show _ ∧ _ ∧ _ ∧ _ ∧ _ ∧ _ ∧  AllLt _ _ by assumption).2.2.2.2.2.2 | exact (show _ ∧ _ ∧ _ ∧ _ ∧ _ ∧ _ ∧ _ ∧  AllLt _ _ by assumption).2.2.2.2.2.2.2 | exact (show _ ∧ _ ∧ _ ∧ _ ∧ _ ∧ _ ∧ _ ∧ _ ∧  AllLt _ _ by assumption).2.2.2.2.2.2.2.2 | exact (show _ ∧ _ ∧ _ ∧ _ ∧ _ ∧ _ ∧ _ ∧ _ ∧ _ ∧  AllLt _ _ by assumption).2.2.2.2.2.2.2.2.2 | exact (show _ ∧ _ ∧ _ ∧ _ ∧ _ ∧ _ ∧ _ ∧ _ ∧ _ ∧ _ ∧  AllLt _ _ by assumption).2.2.2.2.2.2.2.2.2.2) p9 hp9); first | exact Nat.ne_of_lt h9 | exact Nat.ne_of_gt h9 | omega))
  k_with "pyIter ref" => (refine Held.mk ?_)
  k_with "call type:range" => (k_here; (rename Fr _ _ _ _ => F'); (rename News _ _ _ _ => N'); (with_unfolding_all refine range1_rows F' N' ?_; intro _ _ _ _ _ _ _ _ _))
  k_with "CompSrc" => (refine Held.mk ?_)
  k_with "eval ListComp" => (k_here; k_dflt (refine ListComp_GU (F₀ := by k_asm) (by with_unfolding_all rfl) (by decide) (by rfl) (by decide) (by rfl) ?_))
  k_with "call ref" => (k_here; (with_reducible show wpAny _ _ (call (Value.ref 115) [Value.str _ _, Value.str _ _]) _ _ _); k_dflt (refine' tellS_use (join_c _ _ _ _ _ _ _ _ _ (by with_reducible assumption) (by with_reducible assumption)) (by k_asm) (by k_asm) (by k_asm) (by k_asm) (by k_asm) (by first | exact rfl | assumption) (by ktr_room) (by ktr_units) ?_); intro t9 h9 tk9 F9 N9; (try dsimp only); (try k_fold))
  k_with "subscriptTail" => (k_here; (with_reducible show wpAny _ _ (subscriptTail _ _ (Value.str _ _) (Value.int _ _)) _ _ _); k_dflt (refine' itemN (by exact rfl) (by decide) (by k_extra "om") (by k_extra "om") ?_); intro _; (try dsimp only))
  k_with "subscriptTail Name BinOp ref int" => (k_here; (with_reducible show wpAny _ _ (subscriptTail _ _ (Value.ref _) (Value.int _ _)) _ _ _); k_dflt (first
  | (refine' item3 (by k_asm) (by k_mem) (by k_extra "om") (by k_extra "om") ?_)
  | (refine' item4 (by k_asm) (by k_mem) (by k_extra "om") (by k_extra "om") ?_)
  | (refine' itemI2 (by k_asm) (by k_mem) (by k_extra "om") (by k_extra "om") ?_)); intro _; (try dsimp only))
  k_with "subscriptTail List cons BinOp ref int" => (k_here; (with_reducible show wpAny _ _ (subscriptTail _ _ (Value.ref _) (Value.int _ _)) _ _ _); k_dflt (first
  | (refine' item3 (by k_asm) (by k_mem) (by k_extra "om") (by k_extra "om") ?_)
  | (refine' item4 (by k_asm) (by k_mem) (by k_extra "om") (by k_extra "om") ?_)
  | (refine' itemI2 (by k_asm) (by k_mem) (by k_extra "om") (by k_extra "om") ?_)); intro _; (try dsimp only))
  k_with "subscriptTail Name Name ref int" => (k_here; (with_reducible show wpAny _ _ (subscriptTail _ _ (Value.ref _) (Value.int _ _)) _ _ _); k_dflt (first
  | (refine' itemNum (by k_asm) (by k_mem) (by assumption) (by with_reducible assumption) (by with_reducible assumption) (by with_reducible assumption) ?_)
  | (refine' itemNm (by k_asm) (by k_mem) (by with_reducible assumption) (by with_reducible assumption) (by with_reducible assumption) ?_)); intro _; (try dsimp only))
  k_with "subscriptTail BinOp Name Add List BinOp ref int" => (k_here; (with_reducible show wpAny _ _ (subscriptTail _ _ (Value.ref _) (Value.int _ _)) _ _ _); k_dflt (first
  | (refine' itemGoal (by k_asm) (by k_mem) (by with_reducible assumption) (by with_reducible assumption) ?_)); intro _; (try dsimp only))
  k_with "binaryOp Add ref ref" => (k_here; (with_reducible show wpAny _ _ (binaryOp _ (Value.ref _) (Value.ref _)) _ _ _); k_dflt (refine' add1 (by k_asm) (by k_asm) (by k_mem) (by k_mem) (by with_reducible assumption) (by with_reducible assumption) ?_; k_whole); intro D1 h1 ks2 hks2 F1 N1 l1; (try k_lt l1))
  k_with "call builtin:len" => (k_here; k_dflt (refine' lenL (by k_asm) (by k_mem) (by with_reducible assumption) (by k_extra "om") ?_))
  k_with "setItem ref str ref" => (k_here; k_dflt (refine' kda_set (knd := PySem.strKind _ _) (by k_asm) (by k_asm) (by k_updF) (by k_asm) (strKind_is _ _ _ _) (by exact le_line0 (by with_reducible assumption)) ?_); intro h' o' F' N' hd'; (try dsimp only at N'))
  k_with "k_ne" => (first | with_reducible assumption | exact Ne.symm (by with_reducible assumption) | (refine neN ?_; (try dsimp only); first | with_reducible assumption | exact Ne.symm (by with_reducible assumption) | exact Nat.ne_of_lt (by with_reducible assumption) | exact Nat.ne_of_gt (by with_reducible assumption) | exact nl0 (by with_reducible assumption) | exact ng0 (by with_reducible assumption) | exact nl1 (by with_reducible assumption) | exact ng1 (by with_reducible assumption) | exact nl2 (by with_reducible assumption) | exact ng2 (by with_reducible assumption) | exact nl3 (by with_reducible assumption) | exact ng3 (by with_reducible assumption) | exact nl4 (by with_reducible assumption) | exact ng4 (by with_reducible assumption) | exact nl5 (by with_reducible assumption) | exact ng5 (by with_reducible assumption) | exact nl6 (by with_reducible assumption) | exact ng6 (by with_reducible assumption) | exact nl7 (by with_reducible assumption) | exact ng7 (by with_reducible assumption) | exact nl8 (by with_reducible assumption) | exact ng8 (by with_reducible assumption) | exact nl9 (by with_reducible assumption) | exact ng9 (by with_reducible assumption) | omega))
  k_with "newTuple" => (k_here; k_dflt (refine' kup_newTuple (by k_asm) (by k_asm) ?_ (by kmk_size)); intro D' h' F' N' l1; (try k_lt l1))
  k_with "binaryOp Add str str" => (k_here; k_dflt (refine' addN (by k_extra "om") (by k_extra "om") ?_); intro _ _ _; (try dsimp only))
  k_with "execs cons" => (k_here; (with_reducible show wpAny _ _ _ _ _ (Shared.mk _ _ _ (_ + _) _)); refine toks_all ?_; intro tk; (try dsimp only))
  k_with "execs nil" => (k_here; (with_reducible show wpAny _ _ _ _ _ (Shared.mk _ _ _ (_ + _) _)); refine toks_all ?_; intro tk; (try dsimp only))
  trivial

set_option pp.maxSteps 3000 in
theorem law_drawn_c (w : World) (mean : ExcName → Option Value) (mg mb : Str → Option Value) (l : Addr) (vs : List Value) (ns : List Int) (hi : IntsAre vs ns) (hns : ns.length ≤ 63) :
    TellP w mean mg mb 8 60 315 [.ref l] [] (fun h₀ => h₀.IsList l vs.toArray) (fun v n' => ∃ d od fis n, ∃ xs : List Int, v = .ref d ∧ FilesAt w d od fis n' ∧ ND n' ∧ n ≤ 10 ∧ filsOf fis = (List.range n).map (fun k => drawnF n (xs.getD k 0) k)) := by
  unfold TellP
  k_fill
  intro dp un gd cn cs a ccd cl outer A₀ base h₀ L m s Q E hl B F X N T hk hdp hun hret
  refine wpAny_call ?_
  k_dflt ktr_enter
  refine wpAny_noRaise ?_
  rename Fr h₀ _ _ _ => FG0
  rename Fr _ _ _ _ => F9
  have hl2 := isList_up FG0 hl
  have F10 := fr_map F9 (look_one (Str.ofString "script") (.ref l))
  clear F9
  k_steps
  refine Held.of ?_
  rename Fr _ _ _ _ => F2
  rename News _ _ _ _ => N2
  rename IsRange _ _ _ _ _ _ _ _ => R2
  have hlen : (ns.take 6).length + (1 + 1 + 1 + 1) ≤ 10 := by rw [List.length_take]; omega
  rename IntsAre _ (_ ++ _) => hI2
  generalize hn : (ns.take 6).length + (1 + 1 + 1 + 1) = n at R2 hlen
  generalize hxs : ns.take 6 ++ [4, 23, 0, 16] = xs at hI2
  have hxl : xs.length = n := by rw [← hxs, ← hn]; simp
  have N3 := news_first N2
  clear N2 hl2
  k_dflt (refine compRangeM (n := n) (fun L0 i ys nw => nw = L0 ∧ ∃ ks : List (Str × Tok), ys = strValues ks ∧ ks.map (·.1) = (List.range i).map nmF) rfl F2 N3 R2 (by omega) ⟨rfl, [], rfl, rfl⟩ ?stepL ?finL)
  case stepL =>
    intro i v I2 oI C oC2 D m₂ h tk E' ys nw hii hp914 hp915 hns2 hmx F6 N6 hoff hne2
    refine Classical.byContradiction fun hn9 => ?_
    obtain ⟨t, rfl⟩ := hp914
    obtain ⟨rfl, ks, rfl, hks⟩ := hp915
    refine hn9 ?_
    clear hn9
    clear F2 N3
    have hm := Int.fmod_nonneg_of_pos (i : Int) (b := 3) (by decide)
    have hm2 := Int.fmod_lt_of_pos (i : Int) (b := 3) (by decide)
    have hs1 : ([Str.ofString "/", Str.ofString "/u", Str.ofString "/u/v"].getD (Int.fmod (i : Int) 3).toNat PySem.Str.empty).length ≤ 4096 := by
      have : (Int.fmod (i : Int) 3).toNat = 0 ∨ (Int.fmod (i : Int) 3).toNat = 1 ∨ (Int.fmod (i : Int) 3).toNat = 2 := by omega
      rcases this with e | e | e <;> rw [e] <;> decide
    have hs2 : (Txt.item (Str.ofString "abcdefghij") (i : Int)).length ≤ 4096 := by
      have : ∀ k, k < 10 → (Txt.item (Str.ofString "abcdefghij") ((k : Nat) : Int)).length ≤ 4096 := by decide +kernel
      exact this i (by omega)
    k_steps
    rename Fr _ _ _ _ => F8
    rename News _ _ _ _ => N8
    refine CompEnd.intro F8 N8 _ (fun p hp => .tail _ hp) hoff trivial ⟨rfl, ks ++ [(nmF i, _)], strValues_snoc _ _ _, ?_⟩
    rw [List.map_append, hks, List.range_succ, List.map_append]
    rfl
  case finL =>
    intro g ys nw hp93
    refine Classical.byContradiction fun hn9 => ?_
    obtain ⟨rfl, ks, rfl, hks⟩ := hp93
    refine hn9 ?_
    clear hn9
    intro D2 h2 tk2 F4 N4 o4
    clear F2 N3
    have hkn : ((List.range n).map nmF).length = n := by simp
    k_steps
    refine Held.of ?_
    rename Fr _ _ _ _ => F5
    rename News _ _ _ _ => N5
    rename IsRange _ _ _ _ _ _ _ _ => R5
    rename Obj.IsDictOf (PySem.strKind _ _) _ _ => hdF
    rename _ < _ ∧ _ < _ => lt1
    rename (_ == sysModules) = false => lof
    rw [hxl] at R5
    have hnd0 := nd3 N5 lt1 o4
    k_dflt (refine iterRangeM (n := n) (JDrawn w n xs _ (D2, lst (strValues ks)) (_, _)) rfl F5 N5 R5 (by omega) ⟨[], _, [], _, _, _, _, hdF, rfl, by simp, hnd0, map_four4, rfl⟩ ?turn ?done)
    case turn =>
      intro i v m₁ nw h tk I io hii hp99 hp910 hne F₁ N₁
      refine Classical.byContradiction fun hn9 => ?_
      obtain ⟨ti, rfl⟩ := hp99
      obtain ⟨fis, od, tl, u1, u2, u3, u4, hod, hfs, htl, hnd, rfl, rfl⟩ := hp910
      refine hn9 ?_
      clear hn9
      clear F5 N5 hnd0
      have hnd4 := (nd_cons (p := (I, io))).mpr ⟨hne, hnd⟩
      have hnd6 := hnd4
      k_dflt (refine nd_out4 hnd6 ?_)
      intro e01 e02 e03 eR0 e12 e13 eR1 e23 eR2 eR3 eE
      clear hnd6
      have hixl : i < xs.length := by omega
      have hxl2 : xs.length ≤ 100 := by omega
      have hks1 : (strValues ks).length = n := by have := congrArg List.length hks; simp only [List.length_map, List.length_range] at this; simp [strValues, this]
      have hkn2 : ((List.range n).map nmF).length ≤ 100 := by simp; omega
      have hfl : (fis.map FI.kv).length ≤ 100 := by
        have := congrArg List.length hfs
        unfold filsOf at this
        simp only [List.length_map, List.length_range] at this ⊢
        omega
      generalize hxv : xs.getD i 0 = x
      have q1 := Int.fmod_nonneg_of_pos (Int.fdiv x 99) (b := 4) (by decide)
      have q2 := Int.fmod_lt_of_pos (Int.fdiv x 99) (b := 4) (by decide)
      have q3 := Int.fmod_nonneg_of_pos (Int.fdiv x 3) (b := 2) (by decide)
      have q4 := Int.fmod_lt_of_pos (Int.fdiv x 3) (b := 2) (by decide)
      have q5 := Int.fmod_nonneg_of_pos (Int.fdiv x 33) (b := 3) (by decide)
      have q6 := Int.fmod_lt_of_pos (Int.fdiv x 33) (b := 3) (by decide)
      have q7 := Int.fmod_nonneg_of_pos (i : Int) (b := 3) (by decide)
      have r1 := mulD_len (z := Int.fmod (i : Int) 3 + Int.fmod (Int.fdiv x 33) 3) (by have := Int.fmod_nonneg_of_pos (i : Int) (b := 3) (by decide); omega) (by have := Int.fmod_lt_of_pos (i : Int) (b := 3) (by decide); omega)
      have r2 := mid_len q1 q2
      have r3 : (goalF n x).length ≤ 4096 := Nat.le_trans (goal_len hlen x) (by decide)
      have r4 : (Txt.slice (goalF n x) (some 1) none).length ≤ 7 := Nat.le_trans (slice_len1 _) (goal_len hlen x)
      have r5 := mulS_len q3 q4
      have q8 := Int.fmod_lt_of_pos (i : Int) (b := 3) (by decide)
      k_steps
      · have hx0 : (Int.fmod x 3 == 0) = true := by rw [show Int.fmod x 3 = 0 by assumption]; rfl
        rename Fr _ _ _ _ => F8
        rename News _ _ _ _ => N8
        rename Obj.IsDictOf _ _ (stored _ _ _) => hd9
        rename _ ∧ _ ∧ _ ∧ _ ∧ _ ∧ _ ∧ _ ∧ AllLt _ _ => lT
        obtain ⟨fi, hf9, N9, hnd9, hd10⟩ := packF (n := n) (x := x) (i := i) N8 (.head _) (fun q hq => .tail _ (.tail _ (.tail _ (.tail _ (hq))))) hnd4 (by simp only [List.forall_mem_cons]; exact ⟨lT.2.2.2.1, lT.2.2.2.2.1, lT.2.2.2.2.2.1, lT.2.2.2.2.2.2.1, ktn_ltOf lT.2.2.2.2.2.2.2⟩) (by unfold drawnF; rw [if_pos hx0]; try rfl) hd9 (dr_off hfs (by omega))
        exact TurnEnd.fin (.inl rfl) F8 N9 (nd_cons.mp hnd9).1 ⟨fis ++ [fi], _, fi.obj :: tl, _, _, _, _, hd10, fils_snoc hxv hfs hf9, tup_snoc htl, (nd_cons.mp hnd9).2, map_dr1 (by decide) (by decide) (by decide), rfl⟩
      · have hx0 : ¬ (Int.fmod x 3 == 0) = true := by simpa using (show Int.fmod x 3 ≠ 0 by assumption)
        have hx1 : (Int.fmod x 3 == 1) = true := by rw [show Int.fmod x 3 = 1 by assumption]; rfl
        rename Fr _ _ _ _ => F8
        rename News _ _ _ _ => N8
        rename Obj.IsDictOf _ _ (stored _ _ _) => hd9
        rename _ ∧ _ ∧ _ ∧ _ ∧ _ ∧ _ ∧ AllLt _ _ => lT
        obtain ⟨fi, hf9, N9, hnd9, hd10⟩ := packF (n := n) (x := x) (i := i) N8 (.head _) (fun q hq => .tail _ (.tail _ (.tail _ (hq)))) hnd4 (by simp only [List.forall_mem_cons]; exact ⟨lT.2.2.1, lT.2.2.2.1, lT.2.2.2.2.1, lT.2.2.2.2.2.1, ktn_ltOf lT.2.2.2.2.2.2⟩) (by unfold drawnF; rw [if_neg hx0, if_pos hx1]; try rfl) hd9 (dr_off hfs (by omega))
        exact TurnEnd.fin (.inl rfl) F8 N9 (nd_cons.mp hnd9).1 ⟨fis ++ [fi], _, fi.obj :: tl, _, _, _, _, hd10, fils_snoc hxv hfs hf9, tup_snoc htl, (nd_cons.mp hnd9).2, map_dr1 (by decide) (by decide) (by decide), rfl⟩
      · have hx0 : ¬ (Int.fmod x 3 == 0) = true := by simpa using (show Int.fmod x 3 ≠ 0 by assumption)
        have hx1 : ¬ (Int.fmod x 3 == 1) = true := by simpa using (show Int.fmod x 3 ≠ 1 by assumption)
        rename Fr _ _ _ _ => F8
        rename News _ _ _ _ => N8
        rename Obj.IsDictOf _ _ (stored _ _ _) => hd9
        rename _ ∧ _ ∧ _ ∧ _ ∧ _ ∧ _ ∧ _ ∧ AllLt _ _ => lT
        obtain ⟨fi, hf9, N9, hnd9, hd10⟩ := packF (n := n) (x := x) (i := i) N8 (.head _) (fun q hq => .tail _ (.tail _ (.tail _ (.tail _ (hq))))) hnd4 (by simp only [List.forall_mem_cons]; exact ⟨lT.2.2.2.1, lT.2.2.2.2.1, lT.2.2.2.2.2.1, lT.2.2.2.2.2.2.1, ktn_ltOf lT.2.2.2.2.2.2.2⟩) (by unfold drawnF; rw [if_neg hx0, if_neg hx1]; try rfl) hd9 (dr_off hfs (by omega))
        exact TurnEnd.fin (.inl rfl) F8 N9 (nd_cons.mp hnd9).1 ⟨fis ++ [fi], _, fi.obj :: tl, _, _, _, _, hd10, fils_snoc hxv hfs hf9, tup_snoc htl, (nd_cons.mp hnd9).2, map_dr2, rfl⟩
    case done =>
      intro m₁ nw h tk hp94 F₁ N₁
      refine Classical.byContradiction fun hn9 => ?_
      obtain ⟨fis, od, tl, u1, u2, u3, u4, hod, hfs, htl, hnd, rfl, rfl⟩ := hp94
      refine hn9 ?_
      clear hn9
      clear F5 N5 hnd0
      k_steps
      refine hret _ _ _ _ ⟨_, od, fis, n, xs, rfl, ⟨.head _, hod, fun fi hfi => .tail _ (.tail _ (.tail _ (htl fi hfi))), lof⟩, hnd, hlen, hfs⟩ (by k_asm) (by assumption)
end Mine
-- Wf0
open PySem PySem.W PySem.Calls PyProof.Rows
namespace Mine

noncomputable def jn : List (List Nat) → List Nat
  | [] => []
  | [x] => x
  | x :: y :: r => x ++ 47 :: jn (y :: r)
theorem cut_one : ∀ {x y A B : List Nat}, 47 ∉ x → 47 ∉ y → x ++ 47 :: A = y ++ 47 :: B → x = y ∧ A = B
  | [], [], _, _, _, _, h => ⟨rfl, by simpa using h⟩
  | [], b :: y, _, _, _, hy, h => by
    have : (47 : Nat) = b := by simp at h; exact h.1
    subst this
    exact absurd (.head _) hy
  | a :: x, [], _, _, hx, _, h => by
    have : a = 47 := by simp at h; exact h.1
    subst this
    exact absurd (.head _) hx
  | a :: x, b :: y, A, B, hx, hy, h => by
    simp only [List.cons_append, List.cons.injEq] at h
    obtain ⟨e1, e2⟩ := cut_one (fun q => hx (.tail _ q)) (fun q => hy (.tail _ q)) h.2
    exact ⟨by rw [h.1, e1], e2⟩
theorem jn_inj : ∀ {l l' : List (List Nat)}, l ≠ [] → l' ≠ [] → (∀ x ∈ l, 47 ∉ x) → (∀ x ∈ l', 47 ∉ x) → jn l = jn l' → l = l'
  | [], _, h, _, _, _, _ => absurd rfl h
  | _, [], _, h, _, _, _ => absurd rfl h
  | [x], [y], _, _, _, _, h => by
    have : x = y := h
    rw [this]
  | [x], y :: z :: r, _, _, hx, _, h => by
    have h' : x = y ++ 47 :: jn (z :: r) := h
    exact absurd (by rw [h']; simp) (hx x (.head _))
  | x :: x2 :: r, [y], _, _, _, hy, h => by
    have h' : x ++ 47 :: jn (x2 :: r) = y := h
    exact absurd (by rw [← h']; simp) (hy y (.head _))
  | x :: x2 :: r, y :: y2 :: r', _, _, hx, hy, h => by
    have h' : x ++ 47 :: jn (x2 :: r) = y ++ 47 :: jn (y2 :: r') := h
    obtain ⟨e1, e2⟩ := cut_one (hx x (.head _)) (hy y (.head _)) h'
    rw [e1, jn_inj (by simp) (by simp) (fun z hz => hx z (.tail _ hz)) (fun z hz => hy z (.tail _ hz)) e2]
theorem join_cps : ∀ l : List Str, (Str.join (Str.ofString "/") l).cps.toList = jn (l.map fun s => s.cps.toList)
  | [] => rfl
  | [x] => rfl
  | x :: y :: r => by
    show (x ++ Str.ofString "/" ++ Str.join (Str.ofString "/") (y :: r)).cps.toList = x.cps.toList ++ 47 :: jn _
    have e : ∀ a b : Str, (a ++ b).cps.toList = a.cps.toList ++ b.cps.toList := fun a b => by
      show (a.cps ++ b.cps).toList = _
      rw [Array.toList_append]
    rw [e, e, join_cps (y :: r)]
    simp only [List.append_assoc, List.map_cons]
    rfl
theorem str_ext {a b : Str} (h : a.cps.toList = b.cps.toList) : a = b := by
  cases a; cases b; congr 1; exact Array.toList_inj.mp h
theorem map_inj : ∀ {l l' : List Str}, l.map (fun s => s.cps.toList) = l'.map (fun s => s.cps.toList) → l = l'
  | [], [], _ => rfl
  | [], _ :: _, h => nomatch h
  | _ :: _, [], h => nomatch h
  | a :: r, b :: t, h => by
    simp only [List.map_cons, List.cons.injEq] at h
    rw [str_ext h.1, map_inj h.2]
theorem split_join {l : List Str} (hne : l ≠ []) (hf : ∀ p ∈ l, 47 ∉ p.cps.toList) : Txt.split (Txt.join (Str.ofString "/") l) (Str.ofString "/") = l := by
  unfold PySem.Txt.join
  rw [StrLaws.glued_eq_join]
  have hs : Str.ofString "/" = ⟨#[47]⟩ := by decide
  have h1 := StrLaws.join_split (Str.join (Str.ofString "/") l) (Str.ofString "/")
  have h2 : ∀ p ∈ Txt.split (Str.join (Str.ofString "/") l) (Str.ofString "/"), 47 ∉ p.cps.toList := by rw [hs]; exact StrLaws.split_free _ 47
  have h3 : Txt.split (Str.join (Str.ofString "/") l) (Str.ofString "/") ≠ [] := fun e => by
    have := split_pos (Str.join (Str.ofString "/") l) (Str.ofString "/")
    rw [e] at this
    simp at this
  have h4 := congrArg (fun s : Str => s.cps.toList) h1
  (try dsimp only at h4)
  rw [join_cps, join_cps] at h4
  refine map_inj (jn_inj (by simpa using h3) (by simpa using hne) ?_ ?_ h4)
  · intro x hx
    obtain ⟨p, hp, rfl⟩ := List.mem_map.mp hx
    exact h2 p hp
  · intro x hx
    obtain ⟨p, hp, rfl⟩ := List.mem_map.mp hx
    exact hf p hp
noncomputable def dirN : List Str := [sR, sU, sV]
noncomputable def dirP : List (List Str) := [[], [Str.ofString "u"], [Str.ofString "u", Str.ofString "v"]]
noncomputable def midN : List Str := [Str.ofString "", Str.ofString "./", Str.ofString ".//", Str.ofString "z/../"]
noncomputable def midQ : List (List Str) := [[], [Str.ofString "."], [Str.ofString ".", Str.ofString ""], [Str.ofString "z", Str.ofString ".."]]
noncomputable def golN : List Str := (List.range 10).map nmF ++ [sN]
noncomputable def golL : List Str := [Str.ofString "/a", Str.ofString "/u/b", Str.ofString "/u/v/c", Str.ofString "/d", Str.ofString "/u/e", Str.ofString "/u/v/f", Str.ofString "/g", Str.ofString "/u/h", Str.ofString "/u/v/i", Str.ofString "/j", Str.ofString "/u/none"]
theorem gol_eq : golN = golL := by decide +kernel
noncomputable def golP : List (List Str) := [["a"], ["u", "b"], ["u", "v", "c"], ["d"], ["u", "e"], ["u", "v", "f"], ["g"], ["u", "h"], ["u", "v", "i"], ["j"], ["u", "none"]].map fun l => l.map Str.ofString
noncomputable abbrev lc (s : Str) : List Nat := s.cps.toList
theorem lc_app (a b : Str) : lc (a ++ b) = lc a ++ lc b := by
  show (a.cps ++ b.cps).toList = _
  rw [Array.toList_append]
noncomputable def pre (l : List (List Nat)) : List Nat := l.flatMap fun x => x ++ [47]
theorem pre_jn : ∀ (a : List (List Nat)) {b : List (List Nat)}, b ≠ [] → pre a ++ jn b = jn (a ++ b)
  | [], _, _ => rfl
  | x :: r, b, hb => by
    have ih := pre_jn r hb
    have e : pre (x :: r) ++ jn b = x ++ 47 :: (pre r ++ jn b) := by simp [pre]
    rw [e, ih]
    cases h : r ++ b with
    | nil => simp at h; exact absurd h.2 hb
    | cons y t => rw [List.cons_append, h]; rfl
theorem jn_snoc : ∀ {l : List (List Nat)}, l ≠ [] → jn (l ++ [[]]) = jn l ++ [47]
  | [], h => absurd rfl h
  | [x], _ => rfl
  | x :: y :: r, _ => by
    show x ++ 47 :: jn (y :: r ++ [[]]) = (x ++ 47 :: jn (y :: r)) ++ [47]
    rw [jn_snoc (by simp)]
    simp
theorem jn_head {x : List Nat} {r : List (List Nat)} (hx : x ≠ []) (hf : 47 ∉ x) : (jn (x :: r))[0]? ≠ some 47 := by
  cases x with
  | nil => exact absurd rfl hx
  | cons a t =>
    have ha : a ≠ 47 := fun e => hf (e ▸ .head _)
    cases r with
    | nil => simpa [jn] using ha
    | cons y r => simpa [jn] using ha
noncomputable def goodHead (l : List Str) : Bool := match l with
  | x :: _ => !(lc x).isEmpty && !(lc x).contains 47
  | [] => false
theorem head_ok {l : List Str} (h : goodHead l = true) : (jn (l.map lc))[0]? ≠ some 47 ∧ l ≠ [] := by
  cases l with
  | nil => cases h
  | cons x r =>
    simp only [goodHead, Bool.and_eq_true, Bool.not_eq_true', List.isEmpty_eq_false_iff] at h
    refine ⟨jn_head h.1 (fun q => ?_), by simp⟩
    have := h.2
    rw [List.contains_eq_mem] at this
    simp [q] at this
theorem starts_iff (x : Str) : Txt.startswith x (Str.ofString "/") = true ↔ (lc x)[0]? = some 47 := by
  have hs : Str.ofString "/" = ⟨#[47]⟩ := by decide
  unfold PySem.Txt.startswith
  rw [hs, Bool.and_eq_true, decide_eq_true_eq]
  exact StrLaws.subAt_one x 47 0
theorem d1 : ∀ c, c < 5 → lc (Txt.mul (Str.ofString "../") ((c : Nat) : Int)) = pre ((List.replicate c (Str.ofString "..")).map lc) := by decide +kernel
theorem d2 : ∀ m, m < 4 → lc (midN.getD m sE) = pre ((midQ.getD m []).map lc) := by decide +kernel
theorem d3 : ∀ g, g < 11 → lc (Txt.slice (golL.getD g sE) (some 1) none) = jn ((golP.getD g []).map lc) ∧ (golP.getD g []) ≠ [] := by decide +kernel
theorem d4 : ∀ s, s < 2 → lc (Txt.mul (Str.ofString "/") ((s : Nat) : Int)) = List.replicate s 47 := by decide +kernel
theorem f1 : ∀ p, p < 3 → ∀ c, c < 5 → p ≤ c → (dirP.getD p [] ++ List.replicate c (Str.ofString "..")).foldl normStep [] = [] := by decide +kernel
theorem f2 : ∀ m, m < 4 → (midQ.getD m []).foldl normStep [] = [] := by decide +kernel
theorem f3 : ∀ g, g < 11 → (golP.getD g []).foldl normStep [] = golP.getD g [] ∧ ∀ s, s < 2 → (List.replicate s (Str.ofString "")).foldl normStep (golP.getD g []) = golP.getD g [] := by decide +kernel
theorem f5 : ∀ g, g < 11 → Str.ofString "/" ++ Txt.join (Str.ofString "/") (golP.getD g []) = golL.getD g sE ∧ ((golP.getD g []).map (·.length)).sum + (golP.getD g []).length ≤ 1048576 ∧ (Txt.join (Str.ofString "/") (golP.getD g [])).length ≤ 4096 ∧ (golP.getD g []).length ≤ 3 := by decide +kernel
theorem g1 : ∀ m, m < 4 → ∀ g, g < 11 → goodHead (midQ.getD m [] ++ golP.getD g []) = true := by decide +kernel
theorem g2 : ∀ p, p < 3 → ∀ x ∈ dirP.getD p [], 47 ∉ lc x := by decide +kernel
theorem g3 : ∀ m, m < 4 → ∀ x ∈ midQ.getD m [], 47 ∉ lc x := by decide +kernel
theorem g4 : ∀ g, g < 11 → ∀ x ∈ golP.getD g [], 47 ∉ lc x := by decide +kernel
theorem head_app {a b : List Str} (h : goodHead a = true) : goodHead (a ++ b) = true := by
  cases a with
  | nil => cases h
  | cons x r => exact h
theorem g5 : ∀ p, p < 3 → (dirP.getD p []).length ≤ 2 ∧ (dirP.getD p [] = [] ∨ ∀ r, goodHead (dirP.getD p [] ++ r) = true) := by
  intro p hp
  have : p = 0 ∨ p = 1 ∨ p = 2 := by omega
  rcases this with rfl | rfl | rfl
  · exact ⟨by decide, .inl rfl⟩
  · exact ⟨by decide, .inr fun r => head_app (by decide)⟩
  · exact ⟨by decide, .inr fun r => head_app (by decide)⟩
noncomputable def partsT (c m g s : Nat) : List Str := List.replicate c (Str.ofString "..") ++ (midQ.getD m [] ++ golP.getD g []) ++ List.replicate s (Str.ofString "")
noncomputable def textT (c m g s : Nat) : Str := Txt.mul (Str.ofString "../") (c : Int) ++ midN.getD m sE ++ Txt.slice (golL.getD g sE) (some 1) none ++ Txt.mul (Str.ofString "/") (s : Int)
section
variable {p c m g s : Nat} (hp : p < 3) (hc : c < 5) (hpc : p ≤ c) (hm : m < 4) (hg : g < 11) (hs : s < 2)
include hc hm hg hs
theorem partsT_head : goodHead (partsT c m g s) = true := by
  unfold partsT
  refine head_app ?_
  cases c with
  | zero => exact g1 m hm g hg
  | succ c =>
    refine head_app ?_
    rw [List.replicate_succ]
    exact (show goodHead ([Str.ofString ".."] ++ List.replicate c (Str.ofString "..")) = true from head_app (by decide))
theorem textT_lc : lc (textT c m g s) = jn ((partsT c m g s).map lc) := by
  unfold textT partsT
  obtain ⟨e3, hne⟩ := d3 g hg
  rw [lc_app, lc_app, lc_app, d1 c hc, d2 m hm, e3, d4 s hs]
  have hne' : (golP.getD g []).map lc ≠ [] := by simpa using hne
  have e : jn ((golP.getD g []).map lc) ++ List.replicate s 47 = jn ((golP.getD g []).map lc ++ (List.replicate s (Str.ofString "")).map lc) := by
    have : s = 0 ∨ s = 1 := by omega
    rcases this with rfl | rfl
    · simp
    · exact (jn_snoc hne').symm
  have n1 := List.append_ne_nil_of_left_ne_nil hne' ((List.replicate s (Str.ofString "")).map lc)
  rw [List.append_assoc, e, List.append_assoc, pre_jn _ n1, pre_jn _ (List.append_ne_nil_of_right_ne_nil _ n1)]
  simp only [List.map_append, List.append_assoc]
include hp
theorem linkX_eq : joinF (dirN.getD p sE) (textT c m g s) = Str.ofString "/" ++ Txt.join (Str.ofString "/") (dirP.getD p [] ++ partsT c m g s) := by
  have ht := textT_lc hc hm hg hs
  have hh := head_ok (partsT_head hc hm hg hs)
  have hst : ¬ (Txt.startswith (textT c m g s) (Str.ofString "/") = true) := by
    rw [starts_iff, ht]; exact hh.1
  have hj : ∀ l : List Str, lc (Txt.join (Str.ofString "/") l) = jn (l.map lc) := fun l => by
    unfold PySem.Txt.join
    rw [StrLaws.glued_eq_join]
    exact join_cps l
  have hne : (partsT c m g s).map lc ≠ [] := by simpa using hh.2
  refine str_ext ?_
  show lc _ = lc _
  rw [lc_app, hj, List.map_append, ← pre_jn _ hne, ← ht]
  have : p = 0 ∨ p = 1 ∨ p = 2 := by omega
  unfold joinF
  rcases this with rfl | rfl | rfl
  · rw [if_neg (by rintro (h | h); exact hst h; exact absurd h (by decide)), if_pos (by decide +kernel), lc_app]
    rfl
  · rw [if_neg (by rintro (h | h); exact hst h; exact absurd h (by decide)), if_neg (by decide +kernel), lc_app, lc_app]
    rfl
  · rw [if_neg (by rintro (h | h); exact hst h; exact absurd h (by decide)), if_neg (by decide +kernel), lc_app, lc_app]
    rfl
end
end Mine
-- Wf
open PySem PySem.W PySem.Calls PyProof.Rows
namespace Mine

theorem lc_len (x : Str) : (lc x).length = x.length := rfl
theorem slash_lc (R : Str) : lc (Str.ofString "/" ++ R) = 47 :: lc R := by rw [lc_app]; rfl
theorem slash_len (R : Str) : ((Str.ofString "/" ++ R).length : Int) = R.length + 1 := by
  rw [← lc_len, slash_lc, ← lc_len R]
  simp
theorem sl1 (R : Str) : Txt.slice (Str.ofString "/" ++ R) (some 1) none = R := by
  have hl := slash_len R
  rw [slice_from_eq (by decide) (by omega) rfl]
  refine str_ext ?_
  show ((lc (Str.ofString "/" ++ R)).drop 1).take _ = lc R
  rw [slash_lc, hl]
  have : ((R.length : Int) + 1 - 1).toNat = (lc R).length := by rw [lc_len]; omega
  rw [this]
  exact List.take_of_length_le (Nat.le_refl _)
theorem sl2 (R : Str) : (Txt.slice (Str.ofString "/" ++ R) none (some 1) != Str.ofString "/") = false := by
  have hl := slash_len R
  have h := beq_iff_eq.mp (slice_closes_toL (x := Str.ofString "/" ++ R) (j := 1) (by decide) (by omega))
  rw [h]
  have e : (⟨((Str.ofString "/" ++ R).cps.toList.drop (0 : Int).toNat |>.take ((1 : Int) - 0).toNat).toArray⟩ : Str) = Str.ofString "/" := by
    refine str_ext ?_
    show (((lc (Str.ofString "/" ++ R)).drop 0).take 1) = _
    rw [slash_lc]
    rfl
  rw [e]
  decide
theorem sl3 {R : Str} (h0 : 1 ≤ R.length) (h : (lc R)[0]? ≠ some 47) : (Txt.slice (Str.ofString "/" ++ R) (some 1) (some 2) != Str.ofString "/") = true := by
  have hl := slash_len R
  have h1 := beq_iff_eq.mp (slice_closesL (x := Str.ofString "/" ++ R) (i := 1) (j := 2) (by decide) (by decide) (by omega))
  rw [h1, bne_iff_ne]
  intro e
  have e2 := congrArg lc e
  have e3 : ((lc (Str.ofString "/" ++ R)).drop 1).take 1 = [47] := e2
  rw [slash_lc] at e3
  refine h ?_
  cases q : lc R with
  | nil => rw [q] at e3; cases e3
  | cons a t => rw [q] at e3; simp at e3; simp [e3]
theorem joinF_len (x y : Str) : (joinF x y).length ≤ x.length + y.length + 1 := by
  have e : ∀ a b : Str, (a ++ b).length = a.length + b.length := strlen_app
  unfold joinF
  split
  · omega
  · split
    · rw [e]; omega
    · rw [e, e]
      have : (Str.ofString "/").length = 1 := by decide
      omega
/-- what WF asks of a link's text -/
structure LinkOk (x goal : Str) : Prop where
  norm : normF x = goal
  len : x.length ≤ 4096
  ne : (x.length : Int) ≠ 0
  split : (Txt.split (Txt.slice x (some 1) none) (Str.ofString "/")).length ≤ 8192
  sum : ((normC x).map (·.length)).sum + (normC x).length ≤ 1048576
  join : (Txt.join (Str.ofString "/") (normC x)).length ≤ 4096
  s1 : (Txt.slice x none (some 1) != Str.ofString "/") = false
  s2 : (Txt.slice x (some 1) (some 2) != Str.ofString "/") = true
theorem link_len {p c m g s : Nat} (hp : p < 3) (hc : c < 5) (hm : m < 4) (hg : g < 11) (hs : s < 2) : (textT c m g s).length ≤ 30 ∧ (dirN.getD p sE).length ≤ 4 := by
  have e : ∀ a b : Str, (a ++ b).length = a.length + b.length := strlen_app
  have h1 := mulD_len (z := (c : Int)) (by omega) (by omega)
  have h4 := mulS_len (z := (s : Int)) (by omega) (by omega)
  have h2 : ∀ m, m < 4 → (midN.getD m sE).length ≤ 5 := by decide
  have h3 : ∀ g, g < 11 → (golL.getD g sE).length ≤ 7 := by decide
  have h5 : ∀ p, p < 3 → (dirN.getD p sE).length ≤ 4 := by decide
  have h6 := slice_len1 (golL.getD g sE)
  have h2' := h2 m hm
  have h3' := h3 g hg
  unfold textT
  rw [e, e, e]
  exact ⟨by omega, h5 p hp⟩
theorem link_ok {p c m g s : Nat} (hp : p < 3) (hc : c < 5) (hpc : p ≤ c) (hm : m < 4) (hg : g < 11) (hs : s < 2) : LinkOk (joinF (dirN.getD p sE) (textT c m g s)) (golL.getD g sE) := by
  have hX := linkX_eq hp hc hm hg hs
  have hth := partsT_head hc hm hg hs
  have hLh : goodHead (dirP.getD p [] ++ partsT c m g s) = true := by
    rcases (g5 p hp).2 with h | h
    · rw [h]; exact hth
    · exact h _
  have hLo := head_ok hLh
  have hfree : ∀ q ∈ dirP.getD p [] ++ partsT c m g s, 47 ∉ q.cps.toList := by
    intro q hq
    unfold partsT at hq
    simp only [List.mem_append] at hq
    rcases hq with hq | (hq | hq | hq) | hq
    · exact g2 p hp q hq
    · rw [(List.mem_replicate.mp hq).2]; decide
    · exact g3 m hm q hq
    · exact g4 g hg q hq
    · rw [(List.mem_replicate.mp hq).2]; decide
  have hsp := split_join hLo.2 hfree
  have hnc : normC (joinF (dirN.getD p sE) (textT c m g s)) = golP.getD g [] := by
    unfold normC
    rw [hX, sl1, hsp]
    unfold partsT
    rw [← List.append_assoc, ← List.append_assoc, List.foldl_append, List.foldl_append, f1 p hp c hc hpc, List.foldl_append, f2 m hm, (f3 g hg).1]
    exact (f3 g hg).2 s hs
  obtain ⟨j1, j2, j3, j4⟩ := f5 g hg
  have hll := link_len hp hc hm hg hs
  have hjl := joinF_len (dirN.getD p sE) (textT c m g s)
  have hj : lc (Txt.join (Str.ofString "/") (dirP.getD p [] ++ partsT c m g s)) = jn ((dirP.getD p [] ++ partsT c m g s).map lc) := by
    unfold PySem.Txt.join
    rw [StrLaws.glued_eq_join]
    exact join_cps _
  have hRl : 1 ≤ (Txt.join (Str.ofString "/") (dirP.getD p [] ++ partsT c m g s)).length := by
    rw [← lc_len, hj]
    cases q : dirP.getD p [] ++ partsT c m g s with
    | nil => exact absurd q hLo.2
    | cons x r =>
      rw [q] at hLh
      simp only [goodHead, Bool.and_eq_true, Bool.not_eq_true', List.isEmpty_eq_false_iff] at hLh
      have : 1 ≤ (lc x).length := List.length_pos_iff.mpr hLh.1
      cases r with
      | nil => simpa [jn] using this
      | cons y t => simp [jn]; omega
  refine ⟨?_, by omega, ?_, ?_, by rw [hnc]; exact j2, by rw [hnc]; exact j3, by rw [hX]; exact sl2 _, ?_⟩
  · unfold normF
    rw [hnc]; exact j1
  · rw [hX, slash_len]; omega
  · rw [hX, sl1, hsp]
    unfold partsT
    simp only [List.length_append, List.length_replicate]
    have h1 := (g5 p hp).1
    have h2 : ∀ m, m < 4 → (midQ.getD m []).length ≤ 2 := by decide
    have h3 := h2 m hm
    omega
  · rw [hX]
    exact sl3 hRl (by rw [hj]; exact hLo.1)
theorem gol_ok : ∀ g, g < 11 → LinkOk (golL.getD g sE) (golL.getD g sE) := by
  have h1 : ∀ g, g < 11 → normF (golL.getD g sE) = golL.getD g sE := by decide +kernel
  have h2 : ∀ g, g < 11 → (golL.getD g sE).length ≤ 4096 ∧ ((golL.getD g sE).length : Int) ≠ 0 := by decide +kernel
  have h3 : ∀ g, g < 11 → (Txt.split (Txt.slice (golL.getD g sE) (some 1) none) (Str.ofString "/")).length ≤ 8192 := by decide +kernel
  have h4 : ∀ g, g < 11 → ((normC (golL.getD g sE)).map (·.length)).sum + (normC (golL.getD g sE)).length ≤ 1048576 ∧ (Txt.join (Str.ofString "/") (normC (golL.getD g sE))).length ≤ 4096 := by decide +kernel
  have h5 : ∀ g, g < 11 → (Txt.slice (golL.getD g sE) none (some 1) != Str.ofString "/") = false ∧ (Txt.slice (golL.getD g sE) (some 1) (some 2) != Str.ofString "/") = true := by decide +kernel
  exact fun g hg => ⟨h1 g hg, (h2 g hg).1, (h2 g hg).2, h3 g hg, (h4 g hg).1, (h4 g hg).2, (h5 g hg).1, (h5 g hg).2⟩
theorem gol_abs : ∀ g, g < 11 → ∀ p, p < 3 → joinF (dirN.getD p sE) (golL.getD g sE) = golL.getD g sE := by
  intro g hg p hp
  have : ∀ g, g < 11 → Txt.startswith (golL.getD g sE) (Str.ofString "/") = true := by decide +kernel
  unfold joinF
  rw [if_pos (.inl (this g hg))]
theorem nm_gol : ∀ k, k < 10 → nmF k = golL.getD k sE ∧ dirF (nmF k) = dirN.getD (k % 3) sE ∧ PyData.strOk (nmF k) = true ∧ (nmF k).length ≤ 100 ∧ nmF k ≠ sR ∧ nmF k ≠ sU ∧ nmF k ≠ sV ∧ nmF k ≠ sN := by decide +kernel
theorem goal_gol {n : Nat} (hn : n ≤ 10) (x : Int) : ∃ g, g < 11 ∧ goalF n x = golL.getD g sE ∧ ((∃ k, k < n ∧ goalF n x = nmF k) ∨ goalF n x = sN) := by
  have h0 := Int.fmod_nonneg_of_pos (Int.fdiv x 3) (b := (n : Int) + 1) (by omega)
  have h1 := Int.fmod_lt_of_pos (Int.fdiv x 3) (b := (n : Int) + 1) (by omega)
  unfold goalF
  generalize hz : Int.fmod (Int.fdiv x 3) ((n : Int) + 1) = z at h0 h1
  by_cases hlt : z.toNat < n
  · have e : ((List.range n).map nmF ++ [Str.ofString "/u/none"]).getD z.toNat PySem.Str.empty = nmF z.toNat := by
      rw [List.getD_eq_getElem?_getD, List.getElem?_append_left (by simpa using hlt), List.getElem?_map, List.getElem?_range hlt]
      rfl
    rw [e]
    exact ⟨z.toNat, by omega, (nm_gol _ (by omega)).1, .inl ⟨_, hlt, rfl⟩⟩
  · have hz2 : z.toNat = n := by omega
    have e : ((List.range n).map nmF ++ [Str.ofString "/u/none"]).getD z.toNat PySem.Str.empty = sN := by
      rw [hz2, List.getD_eq_getElem?_getD, List.getElem?_append_right (by simp)]
      simp
    rw [e]
    exact ⟨10, by decide, by decide, .inr rfl⟩
theorem drawn_link {n : Nat} (hn : n ≤ 10) (x : Int) {k : Nat} (hk : k < n) (hg : (drawnF n x k).goal ≠ sE) : (drawnF n x k).mode = 41471 ∧ (drawnF n x k).goal = goalF n x ∧ LinkOk (joinF (dirF (drawnF n x k).name) (drawnF n x k).text) (goalF n x) ∧ (drawnF n x k).text.length ≤ 100 := by
  obtain ⟨g, hg11, eg, _⟩ := goal_gol hn x
  have hk10 : k < 10 := by omega
  have hd := (nm_gol k hk10).2.1
  have hp : k % 3 < 3 := Nat.mod_lt _ (by decide)
  rw [drawnF_name, hd]
  unfold drawnF at hg ⊢
  by_cases h0 : (Int.fmod x 3 == 0) = true
  · rw [if_pos h0] at hg
    exact absurd rfl hg
  · rw [if_neg h0] at hg ⊢
    by_cases h1 : (Int.fmod x 3 == 1) = true
    · rw [if_pos h1]
      refine ⟨rfl, rfl, ?_, ?_⟩
      · dsimp only
        rw [eg, gol_abs g hg11 _ hp]
        exact gol_ok g hg11
      · exact Nat.le_trans (goal_len hn x) (by decide)
    · rw [if_neg h1]
      have q1 := Int.fmod_nonneg_of_pos (Int.fdiv x 99) (b := 4) (by decide)
      have q2 := Int.fmod_lt_of_pos (Int.fdiv x 99) (b := 4) (by decide)
      have q3 := Int.fmod_nonneg_of_pos (Int.fdiv x 3) (b := 2) (by decide)
      have q4 := Int.fmod_lt_of_pos (Int.fdiv x 3) (b := 2) (by decide)
      have q5 := Int.fmod_nonneg_of_pos (Int.fdiv x 33) (b := 3) (by decide)
      have q6 := Int.fmod_lt_of_pos (Int.fdiv x 33) (b := 3) (by decide)
      have ek : Int.fmod (k : Int) 3 = ((k % 3 : Nat) : Int) := by rw [Int.fmod_eq_emod_of_nonneg _ (by decide)]; omega
      have et : textF n x k = textT (k % 3 + (Int.fmod (Int.fdiv x 33) 3).toNat) (Int.fmod (Int.fdiv x 99) 4).toNat g (Int.fmod (Int.fdiv x 3) 2).toNat := by
        unfold textF textT
        rw [ek, eg]
        have e1 : (((k % 3 + (Int.fmod (Int.fdiv x 33) 3).toNat : Nat)) : Int) = ((k % 3 : Nat) : Int) + Int.fmod (Int.fdiv x 33) 3 := by omega
        have e2 : (((Int.fmod (Int.fdiv x 3) 2).toNat : Nat) : Int) = Int.fmod (Int.fdiv x 3) 2 := by omega
        rw [e1, e2]
        rfl
      refine ⟨rfl, rfl, ?_, ?_⟩
      · dsimp only
        rw [et, eg]
        exact link_ok hp (by omega) (by omega) (by omega) hg11 (by omega)
      · dsimp only
        rw [et]
        exact Nat.le_trans (link_len (p := k % 3) hp (by omega) (by omega) hg11 (by omega)).1 (by decide)
theorem drawn_plain {n : Nat} (x : Int) {k : Nat} (hg : (drawnF n x k).goal = sE) (hgoal : goalF n x ≠ sE) : ((8192 ≤ (drawnF n x k).mode ∧ (drawnF n x k).mode < 12288) ∨ (32768 ≤ (drawnF n x k).mode ∧ (drawnF n x k).mode < 36864)) ∧ (drawnF n x k).text.length ≤ 100 := by
  unfold drawnF at hg ⊢
  by_cases h0 : (Int.fmod x 3 == 0) = true
  · rw [if_pos h0]
    have q3 := Int.fmod_nonneg_of_pos (Int.fdiv x 3) (b := 2) (by decide)
    have q4 := Int.fmod_lt_of_pos (Int.fdiv x 3) (b := 2) (by decide)
    have q5 := Int.fmod_nonneg_of_pos (Int.fdiv x 3 + 455 * ((k : Int) + 1)) (b := 4096) (by decide)
    have q6 := Int.fmod_lt_of_pos (Int.fdiv x 3 + 455 * ((k : Int) + 1)) (b := 4096) (by decide)
    refine ⟨?_, (by decide : (Str.ofString "").length ≤ 100)⟩
    dsimp only
    have : (Int.fmod (Int.fdiv x 3) 2).toNat = 0 ∨ (Int.fmod (Int.fdiv x 3) 2).toNat = 1 := by omega
    rcases this with e | e
    · rw [e]
      right
      show 32768 ≤ (32768 : Int) + _ ∧ (32768 : Int) + _ < 36864
      omega
    · rw [e]
      left
      show 8192 ≤ (8192 : Int) + _ ∧ (8192 : Int) + _ < 12288
      omega
  · rw [if_neg h0] at hg
    by_cases h1 : (Int.fmod x 3 == 1) = true
    · rw [if_pos h1] at hg; exact absurd hg hgoal
    · rw [if_neg h1] at hg; exact absurd hg hgoal
theorem drawn_goal (n : Nat) (x : Int) (k : Nat) : (drawnF n x k).goal = sE ∨ (drawnF n x k).goal = goalF n x := by
  unfold drawnF
  split
  · exact .inl rfl
  · split <;> exact .inr rfl
theorem wf_drawn {n : Nat} (hn : n ≤ 10) (xs : List Int) : WF ((List.range n).map fun k => drawnF n (xs.getD k 0) k) := by
  have hmem : ∀ f ∈ ((List.range n).map fun k => drawnF n (xs.getD k 0) k), ∃ k, k < n ∧ f = drawnF n (xs.getD k 0) k := fun f hf => by
    obtain ⟨k, hk, e⟩ := List.mem_map.mp hf
    exact ⟨k, List.mem_range.mp hk, e.symm⟩
  have hgne : ∀ x, goalF n x ≠ sE := fun x => by
    obtain ⟨g, hg, e, _⟩ := goal_gol hn x
    have : ∀ g, g < 11 → golL.getD g sE ≠ sE := by decide
    rw [e]; exact this g hg
  have hnames : ((List.range n).map fun k => drawnF n (xs.getD k 0) k).map (·.name) = (List.range n).map nmF := by
    rw [List.map_map]
    exact List.map_congr_left fun k _ => drawnF_name _ _ _
  refine ⟨⟨?_, ?_, ?_, ?_⟩, by simpa using hn, ?_, ?_, ?_, ?_, ?_⟩
  · rw [hnames]
    unfold List.Nodup
    rw [List.pairwise_map]
    refine List.Pairwise.imp_of_mem (fun {a b} ha hb hne e => hne ?_) (List.nodup_range (n := n))
    exact nm_inj a (by have := List.mem_range.mp ha; omega) b (by have := List.mem_range.mp hb; omega) e
  · intro f hf
    obtain ⟨k, hk, rfl⟩ := hmem f hf
    rw [drawnF_name, (nm_gol k (by omega)).2.1]
    have : k % 3 = 0 ∨ k % 3 = 1 ∨ k % 3 = 2 := by omega
    rcases this with e | e | e <;> rw [e]
    · exact .inl rfl
    · exact .inr (.inl rfl)
    · exact .inr (.inr rfl)
  · intro f hf
    obtain ⟨k, hk, rfl⟩ := hmem f hf
    rw [drawnF_name]
    exact (nm_gol k (by omega)).2.2.2.2
  · intro f hf hg
    obtain ⟨k, hk, rfl⟩ := hmem f hf
    rcases drawn_goal n (xs.getD k 0) k with e | e
    · exact absurd e hg
    · rw [e]
      obtain ⟨_, _, _, h | h⟩ := goal_gol hn (xs.getD k 0)
      · obtain ⟨j, hj, e2⟩ := h
        exact .inl ⟨drawnF n (xs.getD j 0) j, List.mem_map.mpr ⟨j, List.mem_range.mpr hj, rfl⟩, by rw [drawnF_name, e2]⟩
      · exact .inr h
  · intro f hf
    obtain ⟨k, hk, rfl⟩ := hmem f hf
    rw [drawnF_name]
    exact (nm_gol k (by omega)).2.2.1
  · intro f hf
    obtain ⟨k, hk, rfl⟩ := hmem f hf
    have hnl := (nm_gol k (by omega)).2.2.2.1
    rcases drawn_goal n (xs.getD k 0) k with e | e
    · refine ⟨by rw [drawnF_name]; exact hnl, (drawn_plain _ e (hgne _)).2, by rw [e]; decide⟩
    · have hg : (drawnF n (xs.getD k 0) k).goal ≠ sE := by rw [e]; exact hgne _
      exact ⟨by rw [drawnF_name]; exact hnl, (drawn_link hn _ hk hg).2.2.2, by rw [e]; exact Nat.le_trans (goal_len hn _) (by decide)⟩
  · intro f hf hg
    obtain ⟨k, hk, rfl⟩ := hmem f hf
    obtain ⟨h1, h2, h3, _⟩ := drawn_link hn _ hk hg
    exact ⟨h1, by rw [h2]; exact h3.norm⟩
  · intro f hf hg
    obtain ⟨k, hk, rfl⟩ := hmem f hf
    exact (drawn_plain _ hg (hgne _)).1
  · intro f hf hg x hx
    obtain ⟨k, hk, rfl⟩ := hmem f hf
    subst hx
    have h3 := (drawn_link hn _ hk hg).2.2.1
    exact ⟨h3.len, h3.ne, h3.split, h3.sum, h3.join, h3.s1, h3.s2⟩
end Mine
-- Eqd
open PySem PySem.W PySem.Calls PyProof.Rows
namespace Mine

theorem ok_app (a b : Str) : PyData.strOk (a ++ b) = (PyData.strOk a && PyData.strOk b) := by
  show (a.cps ++ b.cps).all _ = _
  rw [Array.all_append]
  rfl
theorem ok_join : ∀ l : List Str, (∀ s ∈ l, PyData.strOk s = true) → PyData.strOk (Str.join (Str.ofString "") l) = true
  | [], _ => by decide +kernel
  | [x], h => h x (.head _)
  | x :: y :: r, h => by
    show PyData.strOk (x ++ Str.ofString "" ++ Str.join (Str.ofString "") (y :: r)) = true
    rw [ok_app, ok_app, h x (.head _), ok_join (y :: r) fun s hs => h s (.tail _ hs)]
    decide +kernel
theorem cells_ok : ∀ r ∈ cells, ∀ c ∈ r.2, PyData.strOk c.c = true := by decide +kernel
theorem row_ok (x : Int) : PyData.strOk (rowF x) = true := by
  unfold rowF PySem.Txt.join
  rw [StrLaws.glued_eq_join]
  refine ok_join _ fun s hs => ?_
  unfold fmL at hs
  obtain ⟨i, hi, e⟩ := List.mem_iff_getElem.mp hs
  rw [List.getElem_mapIdx] at e
  have hc : cells[i]'(by simpa using hi) ∈ cells := List.getElem_mem _
  rw [← e]
  unfold fmC
  split
  · rename_i c hf
    exact cells_ok _ hc c (List.mem_of_find?_eq_some hf)
  · split <;> decide +kernel
theorem ends_ok {fs : List Fil} (hok : ∀ f ∈ fs, PyData.strOk f.name = true) {k : Nat} {y : Str} {e : Str × Str} (h : EndsN rowF fs k y e) : PyData.strOk e.1 = true ∧ PyData.strOk e.2 = true := by
  induction h with
  | none _ => exact ⟨by decide +kernel, by decide +kernel⟩
  | plain hf _ => exact ⟨hok _ hf, row_ok _⟩
  | link _ _ _ ih => exact ih
theorem node_ok {fs : List Fil} (hok : ∀ f ∈ fs, PyData.strOk f.name = true) {y : Str} (h : Node fs y) : PyData.strOk y = true := by
  rcases h with rfl | rfl | rfl | ⟨f, hf, rfl⟩ | ⟨rfl, _⟩
  · decide +kernel
  · decide +kernel
  · decide +kernel
  · exact hok f hf
  · decide +kernel
theorem spec_ok {fs : List Fil} {rb : Bool} {l : List (Str × Str × Str)} (hok : ∀ f ∈ fs, PyData.strOk f.name = true) (h : Spec fs rb l) : ∀ d ∈ l.map pairD, kqdOk 8 d = true := by
  intro d hd
  obtain ⟨⟨y, e⟩, hm, rfl⟩ := List.mem_map.mp hd
  obtain ⟨hn, k, he⟩ := (h.mem y e).mp hm
  have h1 := node_ok hok hn
  have h2 := ends_ok hok he
  simp [pairD, kqdOk, h1, h2.1, h2.2]
theorem res_reads {g h : Heap} {L : Addr} {news : Led} {v : Value} {rb : Bool} {l : List (Str × Str × Str)} (N : News g L h news) (hd : DatIn news v (resD rb l)) (ho : ∀ d ∈ l.map pairD, kqdOk 8 d = true) :
    ∃ as, Reads h v (.tuple [.bool rb, .list (kqdPs (l.map pairD))]) as := by
  unfold resD at hd
  cases hd with
  | tuple hm ha =>
    cases ha with
    | cons h1 h2 =>
      cases h1
      cases h2 with
      | cons h3 h4 =>
        cases h4
        cases h3 with
        | list hm2 ha2 =>
          obtain ⟨as, r⟩ := kqd_all N 8 ha2 ho
          have r2 := reads_list_at (N.get hm2) rfl rfl (by simpa [W.listOf] using r)
          exact ⟨_, reads_tuple_at (N.get hm) rfl rfl (by simpa using ReadsAll.cons (Reads.bool rb) (ReadsAll.cons r2 ReadsAll.nil))⟩
theorem eq_res {prog : Program} {w : World} {A : Around} {E : Value → Shared → Prop} {s : Shared} {g : Heap} {L : Addr} {news : Led} {u v : Value} {rb : Bool} {l : List (Str × Str × Str)} {Q : Value → Shared → Prop} (N : News g L s.heap news)
    (h1 : DatIn news u (resD rb l)) (h2 : DatIn news v (resD rb l)) (ho : ∀ d ∈ l.map pairD, kqdOk 8 d = true) (hu : A.units + 64 < cLine) (h : Q (.bool true) s) : wpAny (model prog w) A (compareOp .Eq u v) Q E s := by
  obtain ⟨as, ra⟩ := res_reads N h1 ho
  obtain ⟨bs, rb2⟩ := res_reads N h2 ho
  have hl := kqd_layL ho
  have hk9 : kqdOk 9 (.list (l.map pairD)) = true := by
    show (l.map pairD).all (kqdOk 8) = true
    exact List.all_eq_true.mpr ho
  have he := (kqd_eqv 9 (.list (l.map pairD)) (.list (l.map pairD)) 9 hk9 hk9).mpr rfl
  rw [kqdP] at he
  have hsh : PySem.SeqAt.shaped (.tuple [.bool rb, .list (kqdPs (l.map pairD))]) = true := by
    unfold PySem.SeqAt.shaped
    have h1 := hl.1
    have h2 := hl.2
    rw [Bool.and_eq_true, decide_eq_true_eq]
    refine ⟨by simp [PyData.canLay0, PyData.canLayAll0, h1], ?_⟩
    simp only [PyData.depth, PyData.depthAll]
    omega
  refine eq_dataH ra rb2 hsh hsh hu ?_
  have : PyData.eqv (.tuple [.bool rb, .list (kqdPs (l.map pairD))]) (.tuple [.bool rb, .list (kqdPs (l.map pairD))]) = true := by
    simp [PyData.eqv, PyData.eqvAll] at he ⊢
    exact he
  rw [this]
  exact h
theorem nd_of {g h : Heap} {L : Addr} : ∀ {n : Led}, News g L h n → ∃ n', ND n' ∧ ∀ p, p ∈ n' ↔ p ∈ n
  | [], _ => ⟨[], List.nodup_nil, fun _ => Iff.rfl⟩
  | p :: r, N => by
    obtain ⟨r', h1, h2⟩ := nd_of (n := r) fun q hq => N q (.tail _ hq)
    by_cases hq : ∃ q ∈ r', q.1 = p.1
    · obtain ⟨q, hqm, e⟩ := hq
      have : q = p := by
        have e1 := (N q (.tail _ ((h2 q).mp hqm))).1
        have e2 := (N p (.head _)).1
        rw [e, e2] at e1
        exact Prod.ext e (Option.some.inj e1).symm
      subst this
      refine ⟨r', h1, fun x => ⟨fun hx => .tail _ ((h2 x).mp hx), fun hx => ?_⟩⟩
      rcases List.mem_cons.mp hx with rfl | hx
      · exact hqm
      · exact (h2 x).mpr hx
    · refine ⟨p :: r', nd_cons.mpr ⟨fun q hqm e => hq ⟨q, hqm, e⟩, h1⟩, fun x => ?_⟩
      rw [List.mem_cons, List.mem_cons, h2]
end Mine
-- Lw
open PySem PySem.W PySem.Calls PyProof.Rows
namespace Mine

theorem tellP_use {w : World} {mean : ExcName → Option Value} {mg mb : Str → Option Value} {D U : Nat} {f : Addr} {args : List Value} {news : Led} {P : Heap → Prop} {Post : Value → Led → Prop}
    {dp un : Nat} {gd : Option (List Code)} {cn : Str} {cs : Scope} {a : Addr} {ccd : Value} {cl : List (Str × Addr)} {outer : List Env} {A₀ : Around} {base h₀ : Heap} {L : Addr} {m : Str → Option Value} {s : Shared} {Q E : Value → Shared → Prop}
    (C : TellP w mean mg mb D U f args news P Post) (hP : P h₀) (B : Below A₀ base outer h₀) (F : Fr h₀ L s.heap m) (X : (hd.heap_39 w.params).In h₀) (N : News h₀ L s.heap news)
    (T : Top hd.view_39 (looseW hd.view_39 [Str.ofString "_NodeInfo", Str.ofString "_filemode_table"]) mean mg mb h₀) (hk : cs.kind = .function) (hdp : dp + D < recursionLimit) (hu : un + U < cLine)
    (ret : ∀ v news' h' tk', Post v news' → Fr h₀ L h' m → News h₀ L h' news' → Q v { s with heap := h', toks := tk' }) :
    wpAny (model PySem.Challenge.rw_pd0160_01.row.prog w) (ktrTop dp un gd cn cs L a ccd cl outer) (call (.ref f) args) Q E s :=
  C dp un gd cn cs a ccd cl outer A₀ base h₀ L m s Q E hP B F X N T hk hdp hu ret

theorem lines_Lw1 : True := by
  k_with_none
  k_with "k_ne" => (first | with_reducible assumption | exact Ne.symm (by with_reducible assumption) | (refine neN ?_; (try dsimp only); first | with_reducible assumption | exact Ne.symm (by with_reducible assumption) | exact Nat.ne_of_lt (by with_reducible assumption) | exact Nat.ne_of_gt (by with_reducible assumption) | exact nl0 (by with_reducible assumption) | exact ng0 (by with_reducible assumption) | exact nl1 (by with_reducible assumption) | exact ng1 (by with_reducible assumption) | exact nl2 (by with_reducible assumption) | exact ng2 (by with_reducible assumption) | exact nl3 (by with_reducible assumption) | exact ng3 (by with_reducible assumption) | exact nl4 (by with_reducible assumption) | exact ng4 (by with_reducible assumption) | exact nl5 (by with_reducible assumption) | exact ng5 (by with_reducible assumption) | exact nl6 (by with_reducible assumption) | exact ng6 (by with_reducible assumption) | exact nl7 (by with_reducible assumption) | exact ng7 (by with_reducible assumption) | exact nl8 (by with_reducible assumption) | exact ng8 (by with_reducible assumption) | exact nl9 (by with_reducible assumption) | exact ng9 (by with_reducible assumption) | omega))
  k_with "room" => (first | exact room0 (by with_reducible assumption) | exact room1 (by with_reducible assumption) (by decide) | exact room2 (by with_reducible assumption) (by decide) | exact room3 (by with_reducible assumption) (by decide))
  k_with "units" => (first | exact unit0 (by with_reducible assumption) | exact unit1 (by with_reducible assumption) (by decide) | exact unit2 (by with_reducible assumption) (by decide) | exact unit3 (by with_reducible assumption) (by decide))
  k_with "om" => (first | with_reducible assumption | with_reducible exact le_lit (by with_reducible assumption) (by decide) | with_reducible exact add_lit (by with_reducible assumption) (by with_reducible assumption) (by with_reducible assumption) (by decide) | with_reducible exact lt_lel (by with_reducible assumption) (by decide) | with_reducible exact sum_lit (by with_reducible assumption) (by with_reducible assumption) (by decide) | with_reducible exact suc_lit (by with_reducible assumption) (by decide) | with_reducible exact lt_lit (by with_reducible assumption) (by decide) | with_reducible exact le_ltl (by with_reducible assumption) (by decide) | with_reducible exact ige_lit (by with_reducible assumption) (by decide) | with_reducible exact ile_lit (by with_reducible assumption) (by decide) | with_reducible exact ilt_lit (by with_reducible assumption) (by decide) | omega)
  k_with "execs cons" => (k_here; k_fold)
  k_with "execs cons" => (k_here; (with_reducible show wpAny _ _ _ _ _ (Shared.mk _ _ _ (_ + _) _)); refine toks_all ?_; intro tk; (try dsimp only))
  k_with "execs nil" => (k_here; (with_reducible show wpAny _ _ _ _ _ (Shared.mk _ _ _ (_ + _) _)); refine toks_all ?_; intro tk; (try dsimp only))
  k_with "eval BinOp" => (k_here; k_fold)
  k_with "eval Call Attribute" => (k_here; k_fold)
  k_with "eval Call Name" => (k_here; k_fold)
  k_with "eval Call" => (k_here; k_fold)
  k_with "eval Subscript" => (k_here; k_fold)
  k_with "eval Compare" => (k_here; k_fold)
  k_with "eval IfExp" => (k_here; k_fold)
  k_with "eval List" => (k_here; k_fold)
  k_with "eval Tuple" => (k_here; k_fold)
  k_with "call ref" => (k_here; (with_reducible show wpAny _ _ (call (Value.ref 315) _) _ _ _); refine Held.mk ?_)
  k_with "call ref" => (k_here; (with_reducible show wpAny _ _ (call (Value.ref 320) _) _ _ _); refine Held.mk ?_)
  k_with "call ref" => (k_here; (with_reducible show wpAny _ _ (call (Value.ref 332) _) _ _ _); refine Held.mk ?_)
  k_with "compareOp Eq" => (refine Held.mk ?_)
  trivial

set_option pp.maxSteps 4000 in
theorem final : PySem.Challenge.rw_pd0160_01.Holds := hd (by
  delta hdD hkR kAs loR
  k_fill
  intro w s₀ s₁ mg mb G Y fa o pm cd doc dV kV ho hd1 hcd hD hmg hg args vals as hpre hlay hrd hwl hlo
  have KX := kIn_of Y
  have X := (Ground.X G).1
  have V := (Ground.X G).2
  refine Ground.open G ?_
  intro T B D TE TW
  try (refine guard_noD D (by decide +kernel) ?_; clear D)
  refine Classical.byContradiction fun hn9 => ?_
  obtain ⟨_, _, M⟩ := bmod_of_top T
  refine hn9 ?_
  clear hn9
  have TA := at_of_top T
  try (obtain ⟨_, _, he, B0⟩ := based_of_top T rfl hmg ho hd1; have he' : cd = _ := he; subst he'; clear he)
  clear hmg
  wrow_args hpre hlay hrd hwl hlo
  all_goals (
    first | refine callC_kw (enter_call ?_) | refine enter_call ?_ | refine callC_kw (enter_callW ?_) | refine enter_callW ?_ | w_how
    w_top on
    try refine codeAny_mono ?_ (fun _ _ g => GoodW.toG g)
    have K0 := below_caller (Top.heap T)
    w_call any ho hd1 hcd hD T F
    clear hd1 TA
    k_drop
    skip)
  (all_goals try k_fold); k_steps
  refine Held.of ?_
  rename IntsAre _ _ => hI
  rename ¬ _ < _ => hcond
  rename Heap.IsList _ _ _ => hL
  rename Below _ _ _ _ => kB
  rename Frag.In _ _ => kX
  rename Top _ _ _ _ _ _ => kT
  rename Fr _ _ _ _ => F0
  rename News _ _ _ _ => N0
  k_dflt (refine' tellP_use (law_drawn_c _ _ _ _ _ _ _ hI (by omega)) ?P ?B ?F ?X ?N ?T ?hk ?hd ?hu ?_)
  case B => exact kB
  case F => exact F0
  case X => exact kX
  case N => exact N0
  case T => exact kT
  case P => exact hL
  case hk => rfl
  case hd => first | ktr_room | decide
  case hu => first | ktr_units | decide
  intro v n' h' tk' hp94 F7 N7
  refine Classical.byContradiction fun hn9 => ?_
  obtain ⟨d, od, fis, n, xs, rfl, hF, hN, hn, hfs⟩ := hp94
  refine hn9 ?_
  clear hn9
  have hW : WF (filsOf fis) := by rw [hfs]; exact wf_drawn hn xs
  clear N0 F0
  k_steps
  refine Held.of ?_
  rename Fr _ _ _ _ => F0
  rename News _ _ _ _ => N0
  k_dflt (refine' tellG_use (law_run_c _ _ _ _ n' d od fis hF hN hW) ?B2 ?F2 ?X2 ?N2 ?T2 ?XB2 ?TB2 ?KD2 ?hk2 ?hd2 ?hu2 ?ret2 ?exc2)
  case B2 => exact kB
  case F2 => exact F0
  case X2 => exact kX
  case N2 => exact N0
  case T2 => exact kT
  case XB2 => exact kX
  case TB2 => exact kT
  case KD2 => exact ktsDicts_nil
  case hk2 => rfl
  case hd2 => first | ktr_room | decide
  case hu2 => first | ktr_units | decide
  case exc2 => rintro e t vs newsE h' tk' G h₀' ⟨⟩
  case ret2 =>
    intro v2 n2 h2 tk2 g2 hp95 T7 F8 N8 B8 X8 P8 D8
    refine Classical.byContradiction fun hn9 => ?_
    obtain ⟨⟨rb, l9, hS, hD⟩, hsub⟩ := hp95
    refine hn9 ?_
    clear hn9
    clear F0 N0
    refine Classical.byContradiction fun hn9 => ?_
    obtain ⟨m2, hnd2, hm2⟩ := nd_of N8
    refine hn9 ?_
    clear hn9
    have N9 := cb_drop N8 (fun q hq => (hm2 q).mp hq)
    have hF2 := hF.more (fun p hp => (hm2 p).mpr (hsub p hp))
    clear N8
    k_steps
    refine Held.of ?_
    rename Fr _ _ _ _ => F0
    rename News _ _ _ _ => N0
    k_dflt (refine' tellG_use (law_told_c _ _ _ _ m2 d od fis hF2 hnd2 hW) ?B3 ?F3 ?X3 ?N3 ?T3 ?XB3 ?TB3 ?KD3 ?hk3 ?hd3 ?hu3 ?ret3 ?exc3)
    case B3 => exact B8
    case F3 => exact F0
    case X3 => exact X8
    case N3 => exact N0
    case T3 => exact P8
    case XB3 => exact kX
    case TB3 => exact kT
    case KD3 => exact ktsDicts_nil
    case hk3 => rfl
    case hd3 => first | ktr_room | decide
    case hu3 => first | ktr_units | decide
    case exc3 => rintro e t vs newsE h' tk' G h₀' ⟨⟩
    case ret3 =>
      intro v3 n3 h3 tk3 g3 hp95 T9 F9 N9 B9 X9 P9 D9
      refine Classical.byContradiction fun hn9 => ?_
      obtain ⟨⟨rb', l', hS', hD'⟩, hsub3⟩ := hp95
      refine hn9 ?_
      clear hn9
      refine Classical.byContradiction fun hn9 => ?_
      obtain ⟨rfl, rfl⟩ := spec_eq hS hS'
      refine hn9 ?_
      clear hn9
      have hD2 := hD.mono (fun p hp => hsub3 p ((hm2 p).mpr hp))
      clear F0 N0
      k_steps
      refine Held.of ?_
      rename Fr _ _ _ _ => F0
      rename News _ _ _ _ => N0
      k_dflt (refine' eq_res N0 hD2 hD' (spec_ok hW.ok hS) ?hu4 ?_)
      case hu4 => first | ke_room | ktr_units | decide
      k_steps
      rename Shared.gens _ = #[] => hg0
      refine ⟨.inl ⟨.bool true, .bool true, [], rfl, fun _ => rfl, .bool true, ?post, fun _ => ⟨List.nodup_nil, fun a ha => nomatch ha⟩⟩, fun b o e => F0.keep _ _ (T9.other b o (T7.other b o e (fun q => nomatch q)) (fun q => nomatch q)), rfl, hg0⟩
      case post => wrow_post)
end Mine
set_option maxRecDepth 100000 in
set_option maxHeartbeats 8000000 in
theorem PySem.Challenge.cw_pd0160_01_holds : PySem.Challenge.rw_pd0160_01.Holds :=
  Mine.final
