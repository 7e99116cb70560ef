import PyProof.Rows.All
import Wide.All
import OpenK.AllK
import Wide.FinOn
import PySem.Challenge.RW_te0059_01
set_option Elab.async false
set_option hygiene false
set_option compiler.extract_closed false
set_option maxRecDepth 100000
set_option maxHeartbeats 4000000
namespace Mine
open PySem PySem.W PySem.Calls PyProof.Rows PySem.Spec
abbrev pE : Program := PySem.Challenge.rw_te0059_01.row.toRowW.prog
noncomputable def stm (i : Nat) : Stmt := (PySem.Challenge.pw_te0059_01.main.body[i]?).getD (.Pass ⟨0, 0, 0, 0⟩)
noncomputable def mth (i j : Nat) : Stmt := match stm i with | .ClassDef _ _ _ b _ _ _ _ _ _ _ => (b[j]?).getD (.Pass ⟨0, 0, 0, 0⟩) | x => x
noncomputable def fn (st : Stmt) (n q : String) (g : Addr) (cl : List (Str × Addr)) (d k doc pm : Value) (an : Option Addr) (code ct : Value) (bi : Addr) : FuncData := match st with
  | .FunctionDef _ a b _ _ _ sc _ _ _ => ⟨Str.ofString n, Str.ofString q, a, .stmts b, sc, g, cl, d, k, doc, pm, an, code, ct, bi⟩
  | _ => ⟨Str.ofString n, Str.ofString q, ⟨[], [], none, [], [], none, []⟩, .stmts [], ⟨.function, [], false, false, []⟩, g, cl, d, k, doc, pm, an, code, ct, bi⟩
abbrev ys (x : String) : Str := Str.ofString x
noncomputable def de (P : Params) (x : String) (t : Tok) (v : Value) : DictEntry := ⟨PyData.keyHash P (Str.ofString x), .str (Str.ofString x) t, v⟩
abbrev yz : BT := .nil
abbrev yn (v : Obj) (l r : BT) : BT := .node v l r
abbrev yl (v : Obj) : BT := .node v .nil .nil
noncomputable def ob0 (P : Params) : Obj := ⟨(.type "dict"), none, (.dict #[(de P "__name__" 165 (.str (ys "law_te0059_01") 1259)), (de P "__doc__" 166 .none), (de P "__package__" 167 .none), (de P "__loader__" 168 (.builtin "__main__.__loader__#opaque")), (de P "__spec__" 169 .none), (de P "__annotations__" 170 (.ref 6)), (de P "__builtins__" 171 (.ref 4)), (de P "__file__" 173 (.str (ys "/claim/cut.py") 172)), (de P "__cached__" 174 .none), (de P "serialize" 196 (.ref 21)), (de P "serialize_identifier" 205 (.ref 28)), (de P "serialize_name" 212 (.ref 35)), (de P "_serialize_to" 223 (.ref 42)), (de P "serialize_to_serializer" 224 (.ref 42)), (de P "_is_bad_pair" 232 (.ref 49)), (de P "ascii_lower" 240 (.ref 54)), (de P "Node" 290 (.ref 87)), (de P "ParseError" 336 (.ref 117)), (de P "Comment" 377 (.ref 147)), (de P "WhitespaceToken" 418 (.ref 176)), (de P "LiteralToken" 476 (.ref 219)), (de P "IdentToken" 521 (.ref 248)), (de P "AtKeywordToken" 566 (.ref 278)), (de P "HashToken" 612 (.ref 308)), (de P "StringToken" 658 (.ref 338)), (de P "URLToken" 704 (.ref 368)), (de P "UnicodeRangeToken" 750 (.ref 398)), (de P "NumberToken" 805 (.ref 428)), (de P "PercentageToken" 860 (.ref 460)), (de P "DimensionToken" 925 (.ref 492)), (de P "ParenthesesBlock" 966 (.ref 526)), (de P "SquareBracketsBlock" 1007 (.ref 555)), (de P "CurlyBracketsBlock" 1048 (.ref 584)), (de P "FunctionBlock" 1100 (.ref 613)), (de P "Declaration" 1156 (.ref 644)), (de P "QualifiedRule" 1202 (.ref 676)), (de P "AtRule" 1258 (.ref 706)), (de P "_law_COLUMNS" 1303 (.ref 713)), (de P "_law_TABLE" 1309 (.ref 720)), (de P "_law_SIGNS" 1326 (.ref 721)), (de P "_law_NUMBERS" 1332 (.ref 728)), (de P "_law_UNITS" 1338 (.ref 735)), (de P "_law_LITERALS" 1344 (.ref 742)), (de P "_law_STRINGS" 1350 (.ref 749)), (de P "_law_PLAIN" 1352 (.str (ys "abcdefghijklmnopqrstuvwxyzABCDEFGHIJKLMNOPQRSTUVWXYZ0123456789-_") 1351)), (de P "_law_CALM" 1358 (.ref 756)), (de P "_law_name" 1367 (.ref 763)), (de P "_law_sign" 1374 (.ref 770)), (de P "_law_spell" 1384 (.ref 777)), (de P "_law_unit" 1390 (.ref 782)), (de P "_law_base" 1398 (.ref 789)), (de P "_law_mark" 1407 (.ref 796)), (de P "_law_join" 1418 (.ref 803)), (de P "_law_leaf" 1424 (.ref 808)), (de P "_law_node" 1443 (.ref 815)), (de P "_law_row" 1459 (.ref 822)), (de P "_law_endless" 1473 (.ref 829)), (de P "law" 1479 (.ref 834))] 58), #[]⟩
noncomputable def ob1 : Obj := ⟨(.type "tuple"), none, (.seq #[] 0), #[]⟩
noncomputable def ob2 : Obj := ⟨.none, none, (.fields #[(.int 2 0), (.int 0 0), (.ref 20), (.int 6 0), (.int 0 0), (.ref 27), (.int 20 0), (.int 0 0), (.ref 34), (.int 22 0), (.int 0 0), (.ref 41), (.int 35 0), (.int 0 0), (.ref 48), (.int 38 0), (.int 0 0), (.ref 53), (.int 40 0), (.int 0 0), (.ref 60), (.int 54 0), (.int 0 0), (.ref 97), (.int 74 0), (.int 0 0), (.ref 127), (.int 86 0), (.int 0 0), (.ref 156), (.int 96 0), (.int 0 0), (.ref 185), (.int 112 0), (.int 0 0), (.ref 228), (.int 126 0), (.int 0 0), (.ref 258), (.int 141 0), (.int 0 0), (.ref 288), (.int 156 0), (.int 0 0), (.ref 318), (.int 167 0), (.int 0 0), (.ref 348), (.int 178 0), (.int 0 0), (.ref 378), (.int 192 0), (.int 0 0), (.ref 408), (.int 205 0), (.int 0 0), (.ref 440), (.int 219 0), (.int 0 0), (.ref 472), (.int 243 0), (.int 0 0), (.ref 506), (.int 255 0), (.int 0 0), (.ref 535), (.int 267 0), (.int 0 0), (.ref 564), (.int 279 0), (.int 0 0), (.ref 593), (.int 303 0), (.int 0 0), (.ref 624), (.int 320 0), (.int 0 0), (.ref 656), (.int 334 0), (.int 0 0), (.ref 686), (.int 357 0), (.int 0 0), (.ref 719), (.int 360 0), (.int 0 0), (.ref 727), (.int 362 0), (.int 0 0), (.ref 734), (.int 364 0), (.int 0 0), (.ref 741), (.int 366 0), (.int 0 0), (.ref 748), (.int 369 0), (.int 0 0), (.ref 755), (.int 371 0), (.int 0 0), (.ref 762), (.int 377 0), (.int 0 0), (.ref 769), (.int 387 0), (.int 0 0), (.ref 776), (.int 397 0), (.int 0 0), (.ref 781), (.int 401 0), (.int 0 0), (.ref 788), (.int 407 0), (.int 0 0), (.ref 795), (.int 413 0), (.int 0 0), (.ref 802), (.int 422 0), (.int 0 0), (.ref 807), (.int 465 0), (.int 0 0), (.ref 814), (.int 499 0), (.int 0 0), (.ref 821), (.int 512 0), (.int 0 0), (.ref 828), (.int 525 0), (.int 0 0), (.ref 833)]), #[]⟩
noncomputable def ob3 : Obj := ⟨(.type "code"), none, (.fields #[(.str (ys "<module>") 182), (.str (ys "<module>") 183), (.str (ys "/claim/cut.py") 184), (.int 1 0), (.int 0 0), (.int 0 0), (.int 0 0), (.int 0 0), (.ref 11), (.bool false), (.int 181 0), (.ref 12), .none, .none, .none, .none, (.int 185 0), (.int 1 0), (.str (ys "/claim/cut.py") 186)]), #[]⟩
noncomputable def ob4 : Obj := ⟨(.type "frame"), none, .plain, #[(some (.ref 13)), (some (.ref 3)), (some (.ref 3)), none, (some (.str (ys "__main__") 164)), none, (some (.ref 0))]⟩
noncomputable def ob5 : Obj := ⟨.none, none, (.fields #[]), #[]⟩
noncomputable def ob6 : Obj := ⟨(.type "tuple"), none, (.seq #[(.str (ys "nodes") 192), (.str (ys "chunks") 193)] 0), #[]⟩
noncomputable def ob7 : Obj := ⟨.none, none, (.func (fn (stm 1) "serialize" "serialize" 0 [] .none .none .none .none none .none .none 0)), #[]⟩
noncomputable def ob8 : Obj := ⟨(.type "code"), none, (.fields #[(.str (ys "serialize") 189), (.str (ys "serialize") 190), (.str (ys "/claim/cut.py") 191), (.int 2 0), (.int 1 0), (.int 0 0), (.int 0 0), (.int 3 0), (.ref 15), (.bool true), (.int 181 0), (.ref 16), .none, (.ref 17), (.ref 18), (.ref 19), (.int 194 0), (.int 2 0), (.str (ys "/claim/cut.py") 195)]), #[]⟩
noncomputable def ob9 : Obj := ⟨(.type "function"), none, (.func (fn (stm 1) "serialize" "serialize" 3 [] .none .none .none (.str (ys "tinycss2.serializer") 187) none (.ref 20) .none 0)), #[]⟩
noncomputable def ob10 : Obj := ⟨(.type "tuple"), none, (.seq #[(.str (ys "value") 200), (.str (ys "result") 201), (.str (ys "c") 202)] 0), #[]⟩
noncomputable def ob11 : Obj := ⟨.none, none, (.func (fn (stm 2) "serialize_identifier" "serialize_identifier" 0 [] .none .none .none .none none .none .none 0)), #[]⟩
noncomputable def ob12 : Obj := ⟨(.type "code"), none, (.fields #[(.str (ys "serialize_identifier") 197), (.str (ys "serialize_identifier") 198), (.str (ys "/claim/cut.py") 199), (.int 6 0), (.int 1 0), (.int 0 0), (.int 0 0), (.int 3 0), (.ref 22), (.bool true), (.int 181 0), (.ref 23), .none, (.ref 24), (.ref 25), (.ref 26), (.int 203 0), (.int 6 0), (.str (ys "/claim/cut.py") 204)]), #[]⟩
noncomputable def ob13 : Obj := ⟨(.type "function"), none, (.func (fn (stm 2) "serialize_identifier" "serialize_identifier" 3 [] .none .none .none (.str (ys "tinycss2.serializer") 187) none (.ref 27) .none 0)), #[]⟩
noncomputable def ob14 : Obj := ⟨(.type "tuple"), none, (.seq #[(.str (ys "value") 209)] 0), #[]⟩
noncomputable def ob15 : Obj := ⟨.none, none, (.func (fn (stm 3) "serialize_name" "serialize_name" 0 [] .none .none .none .none none .none .none 0)), #[]⟩
noncomputable def ob16 : Obj := ⟨(.type "code"), none, (.fields #[(.str (ys "serialize_name") 206), (.str (ys "serialize_name") 207), (.str (ys "/claim/cut.py") 208), (.int 20 0), (.int 1 0), (.int 0 0), (.int 0 0), (.int 3 0), (.ref 29), (.bool true), (.int 181 0), (.ref 30), .none, (.ref 31), (.ref 32), (.ref 33), (.int 210 0), (.int 20 0), (.str (ys "/claim/cut.py") 211)]), #[]⟩
noncomputable def ob17 : Obj := ⟨(.type "function"), none, (.func (fn (stm 3) "serialize_name" "serialize_name" 3 [] .none .none .none (.str (ys "tinycss2.serializer") 187) none (.ref 34) .none 0)), #[]⟩
noncomputable def ob18 : Obj := ⟨(.type "tuple"), none, (.seq #[(.str (ys "nodes") 216), (.str (ys "write") 217), (.str (ys "previous_type") 218), (.str (ys "node") 219), (.str (ys "serialization_type") 220)] 0), #[]⟩
noncomputable def ob19 : Obj := ⟨.none, none, (.func (fn (stm 4) "_serialize_to" "_serialize_to" 0 [] .none .none .none .none none .none .none 0)), #[]⟩
noncomputable def ob20 : Obj := ⟨(.type "code"), none, (.fields #[(.str (ys "_serialize_to") 213), (.str (ys "_serialize_to") 214), (.str (ys "/claim/cut.py") 215), (.int 22 0), (.int 2 0), (.int 0 0), (.int 0 0), (.int 3 0), (.ref 36), (.bool true), (.int 181 0), (.ref 37), .none, (.ref 38), (.ref 39), (.ref 40), (.int 221 0), (.int 22 0), (.str (ys "/claim/cut.py") 222)]), #[]⟩
noncomputable def ob21 : Obj := ⟨(.type "function"), none, (.func (fn (stm 4) "_serialize_to" "_serialize_to" 3 [] .none .none .none (.str (ys "tinycss2.serializer") 187) none (.ref 41) .none 0)), #[]⟩
noncomputable def ob22 : Obj := ⟨(.type "tuple"), none, (.seq #[(.str (ys "a") 228), (.str (ys "b") 229)] 0), #[]⟩
noncomputable def ob23 : Obj := ⟨.none, none, (.func (fn (stm 6) "_is_bad_pair" "_is_bad_pair" 0 [] .none .none .none .none none .none .none 0)), #[]⟩
noncomputable def ob24 : Obj := ⟨(.type "code"), none, (.fields #[(.str (ys "_is_bad_pair") 225), (.str (ys "_is_bad_pair") 226), (.str (ys "/claim/cut.py") 227), (.int 35 0), (.int 2 0), (.int 0 0), (.int 0 0), (.int 3 0), (.ref 43), (.bool true), (.int 181 0), (.ref 44), .none, (.ref 45), (.ref 46), (.ref 47), (.int 230 0), (.int 35 0), (.str (ys "/claim/cut.py") 231)]), #[]⟩
noncomputable def ob25 : Obj := ⟨(.type "function"), none, (.func (fn (stm 6) "_is_bad_pair" "_is_bad_pair" 3 [] .none .none .none (.str (ys "tinycss2.serializer") 187) none (.ref 48) .none 0)), #[]⟩
noncomputable def ob26 : Obj := ⟨.none, none, (.func (fn (stm 8) "ascii_lower" "ascii_lower" 0 [] .none .none .none .none none .none .none 0)), #[]⟩
noncomputable def ob27 : Obj := ⟨(.type "code"), none, (.fields #[(.str (ys "ascii_lower") 235), (.str (ys "ascii_lower") 236), (.str (ys "/claim/cut.py") 237), (.int 38 0), (.int 1 0), (.int 0 0), (.int 0 0), (.int 3 0), (.ref 50), (.bool true), (.int 181 0), (.ref 51), .none, .none, .none, (.ref 52), (.int 238 0), (.int 38 0), (.str (ys "/claim/cut.py") 239)]), #[]⟩
noncomputable def ob28 : Obj := ⟨(.type "function"), none, (.func (fn (stm 8) "ascii_lower" "ascii_lower" 3 [] .none .none .none (.str (ys "tinycss2.ast") 233) none (.ref 53) .none 0)), #[]⟩
noncomputable def ob29 : Obj := ⟨(.type "builtin_function_or_method"), none, (.fields #[(.builtin "type.__prepare__"), (.type "type")]), #[]⟩
noncomputable def ob30 (P : Params) : Obj := ⟨(.type "dict"), none, (.dict #[(de P "__module__" 248 (.str (ys "tinycss2.ast") 233)), (de P "__qualname__" 250 (.str (ys "Node") 249)), (de P "__firstlineno__" 252 (.int 40 251)), (de P "__slots__" 255 (.ref 62)), (de P "__init__" 264 (.ref 69)), (de P "serialize" 272 (.ref 76)), (de P "_serialize_to" 280 (.ref 83)), (de P "__static_attributes__" 283 (.ref 84))] 8), #[]⟩
noncomputable def ob31 : Obj := ⟨.none, none, (.fields #[(.int 43 0), (.int 4 0), (.ref 68), (.int 47 0), (.int 4 0), (.ref 75), (.int 52 0), (.int 4 0), (.ref 82)]), #[]⟩
noncomputable def ob32 : Obj := ⟨(.type "code"), none, (.fields #[(.str (ys "Node") 243), (.str (ys "Node") 244), (.str (ys "/claim/cut.py") 245), (.int 40 0), (.int 0 0), (.int 0 0), (.int 0 0), (.int 0 0), (.ref 58), (.bool false), (.int 181 0), (.ref 59), .none, .none, .none, .none, (.int 246 0), (.int 40 0), (.str (ys "/claim/cut.py") 247)]), #[]⟩
noncomputable def ob33 : Obj := ⟨(.type "frame"), none, .plain, #[(some (.ref 60)), (some (.ref 3)), (some (.ref 57)), none, (some (.str (ys "tinycss2.ast") 233)), none, (some (.ref 0))]⟩
noncomputable def ob34 : Obj := ⟨(.type "list"), none, (.seq #[(.str (ys "source_column") 253), (.str (ys "source_line") 254)] 0), #[]⟩
noncomputable def ob35 : Obj := ⟨(.type "tuple"), none, (.seq #[(.str (ys "self") 259), (.str (ys "source_line") 260), (.str (ys "source_column") 261)] 0), #[]⟩
noncomputable def ob36 : Obj := ⟨.none, none, (.func (fn (mth 9 1) "__init__" "Node.__init__" 0 [] .none .none .none .none none .none .none 0)), #[]⟩
noncomputable def ob37 : Obj := ⟨(.type "code"), none, (.fields #[(.str (ys "__init__") 256), (.str (ys "Node.__init__") 257), (.str (ys "/claim/cut.py") 258), (.int 43 0), (.int 3 0), (.int 0 0), (.int 0 0), (.int 3 0), (.ref 63), (.bool true), (.int 181 0), (.ref 64), .none, (.ref 65), (.ref 66), (.ref 67), (.int 262 0), (.int 43 0), (.str (ys "/claim/cut.py") 263)]), #[]⟩
noncomputable def ob38 : Obj := ⟨(.type "function"), none, (.func (fn (mth 9 1) "__init__" "Node.__init__" 3 [] .none .none .none (.str (ys "tinycss2.ast") 233) none (.ref 68) .none 0)), #[]⟩
noncomputable def ob39 : Obj := ⟨(.type "tuple"), none, (.seq #[(.str (ys "self") 268), (.str (ys "chunks") 269)] 0), #[]⟩
noncomputable def ob40 : Obj := ⟨.none, none, (.func (fn (mth 9 2) "serialize" "Node.serialize" 0 [] .none .none .none .none none .none .none 0)), #[]⟩
noncomputable def ob41 : Obj := ⟨(.type "code"), none, (.fields #[(.str (ys "serialize") 265), (.str (ys "Node.serialize") 266), (.str (ys "/claim/cut.py") 267), (.int 47 0), (.int 1 0), (.int 0 0), (.int 0 0), (.int 3 0), (.ref 70), (.bool true), (.int 181 0), (.ref 71), .none, (.ref 72), (.ref 73), (.ref 74), (.int 270 0), (.int 47 0), (.str (ys "/claim/cut.py") 271)]), #[]⟩
noncomputable def ob42 : Obj := ⟨(.type "function"), none, (.func (fn (mth 9 2) "serialize" "Node.serialize" 3 [] .none .none .none (.str (ys "tinycss2.ast") 233) none (.ref 75) .none 0)), #[]⟩
noncomputable def ob43 : Obj := ⟨(.type "tuple"), none, (.seq #[(.str (ys "self") 276), (.str (ys "write") 277)] 0), #[]⟩
noncomputable def ob44 : Obj := ⟨.none, none, (.func (fn (mth 9 3) "_serialize_to" "Node._serialize_to" 0 [] .none .none .none .none none .none .none 0)), #[]⟩
noncomputable def ob45 : Obj := ⟨(.type "code"), none, (.fields #[(.str (ys "_serialize_to") 273), (.str (ys "Node._serialize_to") 274), (.str (ys "/claim/cut.py") 275), (.int 52 0), (.int 2 0), (.int 0 0), (.int 0 0), (.int 3 0), (.ref 77), (.bool true), (.int 181 0), (.ref 78), .none, (.ref 79), (.ref 80), (.ref 81), (.int 278 0), (.int 52 0), (.str (ys "/claim/cut.py") 279)]), #[]⟩
noncomputable def ob46 : Obj := ⟨(.type "function"), none, (.func (fn (mth 9 3) "_serialize_to" "Node._serialize_to" 3 [] .none .none .none (.str (ys "tinycss2.ast") 233) none (.ref 82) .none 0)), #[]⟩
noncomputable def ob47 : Obj := ⟨(.type "tuple"), none, (.seq #[(.str (ys "source_column") 281), (.str (ys "source_line") 282)] 0), #[]⟩
noncomputable def ob48 : Obj := ⟨(.type "list"), none, (.seq #[(.str (ys "source_column") 253), (.str (ys "source_line") 254)] 1), #[]⟩
noncomputable def ob49 (P : Params) : Obj := ⟨(.type "dict"), none, (.dict #[(de P "__module__" 248 (.str (ys "tinycss2.ast") 233)), (de P "__firstlineno__" 252 (.int 40 251)), (de P "__slots__" 255 (.ref 62)), (de P "__init__" 264 (.ref 69)), (de P "serialize" 272 (.ref 76)), (de P "_serialize_to" 280 (.ref 83)), (de P "__static_attributes__" 283 (.ref 84)), (de P "source_column" 285 (.ref 88)), (de P "source_line" 287 (.ref 89)), (de P "__doc__" 288 .none)] 4), #[]⟩
noncomputable def ob50 : Obj := ⟨(.type "type"), none, (.cls ⟨(ys "Node"), [(.type "object")], [(.ref 87), (.type "object")], 86, (ys "Node"), false, [(ys "source_column"), (ys "source_line")], [(.ref 117), (.ref 147), (.ref 176), (.ref 219), (.ref 248), (.ref 278), (.ref 308), (.ref 338), (.ref 368), (.ref 398), (.ref 428), (.ref 460), (.ref 492), (.ref 526), (.ref 555), (.ref 584), (.ref 613), (.ref 644), (.ref 676), (.ref 706)], false, none, false⟩), #[none, none, (some (.str (ys "Node") 241)), (some (.str (ys "Node") 249)), (some (.builtin "object.__new__")), (some (.bool false))]⟩
noncomputable def ob51 : Obj := ⟨(.type "member_descriptor"), none, (.fields #[(.str (ys "source_column") 284), (.ref 87), (.builtin "proto.slot"), (.builtin "proto.slot#set"), (.int 1 0)]), #[]⟩
noncomputable def ob52 : Obj := ⟨(.type "member_descriptor"), none, (.fields #[(.str (ys "source_line") 286), (.ref 87), (.builtin "proto.slot"), (.builtin "proto.slot#set"), (.int 0 0)]), #[]⟩
noncomputable def ob53 : Obj := ⟨(.type "super"), none, (.fields #[(.ref 87), (.ref 87), (.ref 87)]), #[]⟩
noncomputable def ob54 : Obj := ⟨(.type "builtin_function_or_method"), none, (.fields #[(.builtin "object.__init_subclass__"), (.ref 87)]), #[]⟩
noncomputable def ob55 : Obj := ⟨(.type "tuple"), none, (.seq #[(.ref 87)] 0), #[]⟩
noncomputable def ob56 (P : Params) : Obj := ⟨(.type "dict"), none, (.dict #[(de P "__module__" 298 (.str (ys "tinycss2.ast") 233)), (de P "__qualname__" 300 (.str (ys "ParseError") 299)), (de P "__firstlineno__" 302 (.int 54 301)), (de P "__slots__" 305 (.ref 99)), (de P "type" 307 (.str (ys "error") 306)), (de P "__init__" 318 (.ref 106)), (de P "_serialize_to" 326 (.ref 113)), (de P "__static_attributes__" 329 (.ref 114))] 8), #[]⟩
noncomputable def ob57 : Obj := ⟨.none, none, (.fields #[(.int 58 0), (.int 4 0), (.ref 105), (.int 63 0), (.int 4 0), (.ref 112)]), #[]⟩
noncomputable def ob58 : Obj := ⟨(.type "code"), none, (.fields #[(.str (ys "ParseError") 293), (.str (ys "ParseError") 294), (.str (ys "/claim/cut.py") 295), (.int 54 0), (.int 0 0), (.int 0 0), (.int 0 0), (.int 0 0), (.ref 95), (.bool false), (.int 181 0), (.ref 96), .none, .none, .none, .none, (.int 296 0), (.int 54 0), (.str (ys "/claim/cut.py") 297)]), #[]⟩
noncomputable def ob59 : Obj := ⟨(.type "frame"), none, .plain, #[(some (.ref 97)), (some (.ref 3)), (some (.ref 94)), none, (some (.str (ys "tinycss2.ast") 233)), none, (some (.ref 0))]⟩
noncomputable def ob60 : Obj := ⟨(.type "list"), none, (.seq #[(.str (ys "kind") 303), (.str (ys "message") 304)] 0), #[]⟩
noncomputable def ob61 : Obj := ⟨(.type "tuple"), none, (.seq #[(.str (ys "self") 311), (.str (ys "line") 312), (.str (ys "column") 313), (.str (ys "kind") 314), (.str (ys "message") 315)] 0), #[]⟩
noncomputable def ob62 : Obj := ⟨.none, none, (.func (fn (mth 10 2) "__init__" "ParseError.__init__" 0 [] .none .none .none .none none .none .none 0)), #[]⟩
noncomputable def ob63 : Obj := ⟨(.type "code"), none, (.fields #[(.str (ys "__init__") 308), (.str (ys "ParseError.__init__") 309), (.str (ys "/claim/cut.py") 310), (.int 58 0), (.int 5 0), (.int 0 0), (.int 0 0), (.int 3 0), (.ref 100), (.bool true), (.int 181 0), (.ref 101), .none, (.ref 102), (.ref 103), (.ref 104), (.int 316 0), (.int 58 0), (.str (ys "/claim/cut.py") 317)]), #[]⟩
noncomputable def ob64 : Obj := ⟨(.type "function"), none, (.func (fn (mth 10 2) "__init__" "ParseError.__init__" 3 [] .none .none .none (.str (ys "tinycss2.ast") 233) none (.ref 105) .none 0)), #[]⟩
noncomputable def ob65 : Obj := ⟨(.type "tuple"), none, (.seq #[(.str (ys "self") 322), (.str (ys "write") 323)] 0), #[]⟩
noncomputable def ob66 : Obj := ⟨.none, none, (.func (fn (mth 10 3) "_serialize_to" "ParseError._serialize_to" 0 [] .none .none .none .none none .none .none 0)), #[]⟩
noncomputable def ob67 : Obj := ⟨(.type "code"), none, (.fields #[(.str (ys "_serialize_to") 319), (.str (ys "ParseError._serialize_to") 320), (.str (ys "/claim/cut.py") 321), (.int 63 0), (.int 2 0), (.int 0 0), (.int 0 0), (.int 3 0), (.ref 107), (.bool true), (.int 181 0), (.ref 108), .none, (.ref 109), (.ref 110), (.ref 111), (.int 324 0), (.int 63 0), (.str (ys "/claim/cut.py") 325)]), #[]⟩
noncomputable def ob68 : Obj := ⟨(.type "function"), none, (.func (fn (mth 10 3) "_serialize_to" "ParseError._serialize_to" 3 [] .none .none .none (.str (ys "tinycss2.ast") 233) none (.ref 112) .none 0)), #[]⟩
noncomputable def ob69 : Obj := ⟨(.type "tuple"), none, (.seq #[(.str (ys "kind") 327), (.str (ys "message") 328)] 0), #[]⟩
noncomputable def ob70 : Obj := ⟨(.type "list"), none, (.seq #[(.str (ys "kind") 303), (.str (ys "message") 304)] 1), #[]⟩
noncomputable def ob71 (P : Params) : Obj := ⟨(.type "dict"), none, (.dict #[(de P "__module__" 298 (.str (ys "tinycss2.ast") 233)), (de P "__firstlineno__" 302 (.int 54 301)), (de P "__slots__" 305 (.ref 99)), (de P "type" 307 (.str (ys "error") 306)), (de P "__init__" 318 (.ref 106)), (de P "_serialize_to" 326 (.ref 113)), (de P "__static_attributes__" 329 (.ref 114)), (de P "kind" 331 (.ref 118)), (de P "message" 333 (.ref 119)), (de P "__doc__" 334 .none)] 4), #[]⟩
noncomputable def ob72 : Obj := ⟨(.type "type"), none, (.cls ⟨(ys "ParseError"), [(.ref 87)], [(.ref 117), (.ref 87), (.type "object")], 116, (ys "ParseError"), false, [(ys "source_column"), (ys "source_line"), (ys "kind"), (ys "message")], [], false, none, false⟩), #[(some (.ref 92)), none, (some (.str (ys "ParseError") 291)), (some (.str (ys "ParseError") 299)), (some (.builtin "object.__new__")), (some (.bool false))]⟩
noncomputable def ob73 : Obj := ⟨(.type "member_descriptor"), none, (.fields #[(.str (ys "kind") 330), (.ref 117), (.builtin "proto.slot"), (.builtin "proto.slot#set"), (.int 3 0)]), #[]⟩
noncomputable def ob74 : Obj := ⟨(.type "member_descriptor"), none, (.fields #[(.str (ys "message") 332), (.ref 117), (.builtin "proto.slot"), (.builtin "proto.slot#set"), (.int 2 0)]), #[]⟩
noncomputable def ob75 : Obj := ⟨(.type "super"), none, (.fields #[(.ref 117), (.ref 117), (.ref 117)]), #[]⟩
noncomputable def ob76 : Obj := ⟨(.type "builtin_function_or_method"), none, (.fields #[(.builtin "object.__init_subclass__"), (.ref 117)]), #[]⟩
noncomputable def ob77 (P : Params) : Obj := ⟨(.type "dict"), none, (.dict #[(de P "__module__" 344 (.str (ys "tinycss2.ast") 233)), (de P "__qualname__" 346 (.str (ys "Comment") 345)), (de P "__firstlineno__" 348 (.int 74 347)), (de P "__slots__" 350 (.ref 129)), (de P "type" 352 (.str (ys "comment") 351)), (de P "__init__" 362 (.ref 136)), (de P "_serialize_to" 370 (.ref 143)), (de P "__static_attributes__" 372 (.ref 144))] 8), #[]⟩
noncomputable def ob78 : Obj := ⟨.none, none, (.fields #[(.int 78 0), (.int 4 0), (.ref 135), (.int 82 0), (.int 4 0), (.ref 142)]), #[]⟩
noncomputable def ob79 : Obj := ⟨(.type "code"), none, (.fields #[(.str (ys "Comment") 339), (.str (ys "Comment") 340), (.str (ys "/claim/cut.py") 341), (.int 74 0), (.int 0 0), (.int 0 0), (.int 0 0), (.int 0 0), (.ref 125), (.bool false), (.int 181 0), (.ref 126), .none, .none, .none, .none, (.int 342 0), (.int 74 0), (.str (ys "/claim/cut.py") 343)]), #[]⟩
noncomputable def ob80 : Obj := ⟨(.type "frame"), none, .plain, #[(some (.ref 127)), (some (.ref 3)), (some (.ref 124)), none, (some (.str (ys "tinycss2.ast") 233)), none, (some (.ref 0))]⟩
noncomputable def ob81 : Obj := ⟨(.type "list"), none, (.seq #[(.str (ys "value") 349)] 0), #[]⟩
noncomputable def ob82 : Obj := ⟨(.type "tuple"), none, (.seq #[(.str (ys "self") 356), (.str (ys "line") 357), (.str (ys "column") 358), (.str (ys "value") 359)] 0), #[]⟩
noncomputable def ob83 : Obj := ⟨.none, none, (.func (fn (mth 11 2) "__init__" "Comment.__init__" 0 [] .none .none .none .none none .none .none 0)), #[]⟩
noncomputable def ob84 : Obj := ⟨(.type "code"), none, (.fields #[(.str (ys "__init__") 353), (.str (ys "Comment.__init__") 354), (.str (ys "/claim/cut.py") 355), (.int 78 0), (.int 4 0), (.int 0 0), (.int 0 0), (.int 3 0), (.ref 130), (.bool true), (.int 181 0), (.ref 131), .none, (.ref 132), (.ref 133), (.ref 134), (.int 360 0), (.int 78 0), (.str (ys "/claim/cut.py") 361)]), #[]⟩
noncomputable def ob85 : Obj := ⟨(.type "function"), none, (.func (fn (mth 11 2) "__init__" "Comment.__init__" 3 [] .none .none .none (.str (ys "tinycss2.ast") 233) none (.ref 135) .none 0)), #[]⟩
noncomputable def ob86 : Obj := ⟨(.type "tuple"), none, (.seq #[(.str (ys "self") 366), (.str (ys "write") 367)] 0), #[]⟩
noncomputable def ob87 : Obj := ⟨.none, none, (.func (fn (mth 11 3) "_serialize_to" "Comment._serialize_to" 0 [] .none .none .none .none none .none .none 0)), #[]⟩
noncomputable def ob88 : Obj := ⟨(.type "code"), none, (.fields #[(.str (ys "_serialize_to") 363), (.str (ys "Comment._serialize_to") 364), (.str (ys "/claim/cut.py") 365), (.int 82 0), (.int 2 0), (.int 0 0), (.int 0 0), (.int 3 0), (.ref 137), (.bool true), (.int 181 0), (.ref 138), .none, (.ref 139), (.ref 140), (.ref 141), (.int 368 0), (.int 82 0), (.str (ys "/claim/cut.py") 369)]), #[]⟩
noncomputable def ob89 : Obj := ⟨(.type "function"), none, (.func (fn (mth 11 3) "_serialize_to" "Comment._serialize_to" 3 [] .none .none .none (.str (ys "tinycss2.ast") 233) none (.ref 142) .none 0)), #[]⟩
noncomputable def ob90 : Obj := ⟨(.type "tuple"), none, (.seq #[(.str (ys "value") 371)] 0), #[]⟩
noncomputable def ob91 : Obj := ⟨(.type "list"), none, (.seq #[(.str (ys "value") 349)] 1), #[]⟩
noncomputable def ob92 (P : Params) : Obj := ⟨(.type "dict"), none, (.dict #[(de P "__module__" 344 (.str (ys "tinycss2.ast") 233)), (de P "__firstlineno__" 348 (.int 74 347)), (de P "__slots__" 350 (.ref 129)), (de P "type" 352 (.str (ys "comment") 351)), (de P "__init__" 362 (.ref 136)), (de P "_serialize_to" 370 (.ref 143)), (de P "__static_attributes__" 372 (.ref 144)), (de P "value" 374 (.ref 148)), (de P "__doc__" 375 .none)] 3), #[]⟩
noncomputable def ob93 : Obj := ⟨(.type "type"), none, (.cls ⟨(ys "Comment"), [(.ref 87)], [(.ref 147), (.ref 87), (.type "object")], 146, (ys "Comment"), false, [(ys "source_column"), (ys "source_line"), (ys "value")], [], false, none, false⟩), #[(some (.ref 122)), none, (some (.str (ys "Comment") 337)), (some (.str (ys "Comment") 345)), (some (.builtin "object.__new__")), (some (.bool false))]⟩
noncomputable def ob94 : Obj := ⟨(.type "member_descriptor"), none, (.fields #[(.str (ys "value") 373), (.ref 147), (.builtin "proto.slot"), (.builtin "proto.slot#set"), (.int 2 0)]), #[]⟩
noncomputable def ob95 : Obj := ⟨(.type "super"), none, (.fields #[(.ref 147), (.ref 147), (.ref 147)]), #[]⟩
noncomputable def ob96 : Obj := ⟨(.type "builtin_function_or_method"), none, (.fields #[(.builtin "object.__init_subclass__"), (.ref 147)]), #[]⟩
noncomputable def ob97 (P : Params) : Obj := ⟨(.type "dict"), none, (.dict #[(de P "__module__" 385 (.str (ys "tinycss2.ast") 233)), (de P "__qualname__" 387 (.str (ys "WhitespaceToken") 386)), (de P "__firstlineno__" 389 (.int 86 388)), (de P "__slots__" 391 (.ref 158)), (de P "type" 393 (.str (ys "whitespace") 392)), (de P "__init__" 403 (.ref 165)), (de P "_serialize_to" 411 (.ref 172)), (de P "__static_attributes__" 413 (.ref 173))] 8), #[]⟩
noncomputable def ob98 : Obj := ⟨.none, none, (.fields #[(.int 90 0), (.int 4 0), (.ref 164), (.int 94 0), (.int 4 0), (.ref 171)]), #[]⟩
noncomputable def ob99 : Obj := ⟨(.type "code"), none, (.fields #[(.str (ys "WhitespaceToken") 380), (.str (ys "WhitespaceToken") 381), (.str (ys "/claim/cut.py") 382), (.int 86 0), (.int 0 0), (.int 0 0), (.int 0 0), (.int 0 0), (.ref 154), (.bool false), (.int 181 0), (.ref 155), .none, .none, .none, .none, (.int 383 0), (.int 86 0), (.str (ys "/claim/cut.py") 384)]), #[]⟩
noncomputable def ob100 : Obj := ⟨(.type "frame"), none, .plain, #[(some (.ref 156)), (some (.ref 3)), (some (.ref 153)), none, (some (.str (ys "tinycss2.ast") 233)), none, (some (.ref 0))]⟩
noncomputable def ob101 : Obj := ⟨(.type "list"), none, (.seq #[(.str (ys "value") 390)] 0), #[]⟩
noncomputable def ob102 : Obj := ⟨(.type "tuple"), none, (.seq #[(.str (ys "self") 397), (.str (ys "line") 398), (.str (ys "column") 399), (.str (ys "value") 400)] 0), #[]⟩
noncomputable def ob103 : Obj := ⟨.none, none, (.func (fn (mth 12 2) "__init__" "WhitespaceToken.__init__" 0 [] .none .none .none .none none .none .none 0)), #[]⟩
noncomputable def ob104 : Obj := ⟨(.type "code"), none, (.fields #[(.str (ys "__init__") 394), (.str (ys "WhitespaceToken.__init__") 395), (.str (ys "/claim/cut.py") 396), (.int 90 0), (.int 4 0), (.int 0 0), (.int 0 0), (.int 3 0), (.ref 159), (.bool true), (.int 181 0), (.ref 160), .none, (.ref 161), (.ref 162), (.ref 163), (.int 401 0), (.int 90 0), (.str (ys "/claim/cut.py") 402)]), #[]⟩
noncomputable def ob105 : Obj := ⟨(.type "function"), none, (.func (fn (mth 12 2) "__init__" "WhitespaceToken.__init__" 3 [] .none .none .none (.str (ys "tinycss2.ast") 233) none (.ref 164) .none 0)), #[]⟩
noncomputable def ob106 : Obj := ⟨(.type "tuple"), none, (.seq #[(.str (ys "self") 407), (.str (ys "write") 408)] 0), #[]⟩
noncomputable def ob107 : Obj := ⟨.none, none, (.func (fn (mth 12 3) "_serialize_to" "WhitespaceToken._serialize_to" 0 [] .none .none .none .none none .none .none 0)), #[]⟩
noncomputable def ob108 : Obj := ⟨(.type "code"), none, (.fields #[(.str (ys "_serialize_to") 404), (.str (ys "WhitespaceToken._serialize_to") 405), (.str (ys "/claim/cut.py") 406), (.int 94 0), (.int 2 0), (.int 0 0), (.int 0 0), (.int 3 0), (.ref 166), (.bool true), (.int 181 0), (.ref 167), .none, (.ref 168), (.ref 169), (.ref 170), (.int 409 0), (.int 94 0), (.str (ys "/claim/cut.py") 410)]), #[]⟩
noncomputable def ob109 : Obj := ⟨(.type "function"), none, (.func (fn (mth 12 3) "_serialize_to" "WhitespaceToken._serialize_to" 3 [] .none .none .none (.str (ys "tinycss2.ast") 233) none (.ref 171) .none 0)), #[]⟩
noncomputable def ob110 : Obj := ⟨(.type "tuple"), none, (.seq #[(.str (ys "value") 412)] 0), #[]⟩
noncomputable def ob111 : Obj := ⟨(.type "list"), none, (.seq #[(.str (ys "value") 390)] 1), #[]⟩
noncomputable def ob112 (P : Params) : Obj := ⟨(.type "dict"), none, (.dict #[(de P "__module__" 385 (.str (ys "tinycss2.ast") 233)), (de P "__firstlineno__" 389 (.int 86 388)), (de P "__slots__" 391 (.ref 158)), (de P "type" 393 (.str (ys "whitespace") 392)), (de P "__init__" 403 (.ref 165)), (de P "_serialize_to" 411 (.ref 172)), (de P "__static_attributes__" 413 (.ref 173)), (de P "value" 415 (.ref 177)), (de P "__doc__" 416 .none)] 3), #[]⟩
noncomputable def ob113 : Obj := ⟨(.type "type"), none, (.cls ⟨(ys "WhitespaceToken"), [(.ref 87)], [(.ref 176), (.ref 87), (.type "object")], 175, (ys "WhitespaceToken"), false, [(ys "source_column"), (ys "source_line"), (ys "value")], [], false, none, false⟩), #[(some (.ref 151)), none, (some (.str (ys "WhitespaceToken") 378)), (some (.str (ys "WhitespaceToken") 386)), (some (.builtin "object.__new__")), (some (.bool false))]⟩
noncomputable def ob114 : Obj := ⟨(.type "member_descriptor"), none, (.fields #[(.str (ys "value") 414), (.ref 176), (.builtin "proto.slot"), (.builtin "proto.slot#set"), (.int 2 0)]), #[]⟩
noncomputable def ob115 : Obj := ⟨(.type "super"), none, (.fields #[(.ref 176), (.ref 176), (.ref 176)]), #[]⟩
noncomputable def ob116 : Obj := ⟨(.type "builtin_function_or_method"), none, (.fields #[(.builtin "object.__init_subclass__"), (.ref 176)]), #[]⟩
noncomputable def ob117 (P : Params) : Obj := ⟨(.type "dict"), none, (.dict #[(de P "__module__" 426 (.str (ys "tinycss2.ast") 233)), (de P "__qualname__" 428 (.str (ys "LiteralToken") 427)), (de P "__firstlineno__" 430 (.int 96 429)), (de P "__slots__" 432 (.ref 187)), (de P "type" 434 (.str (ys "literal") 433)), (de P "__init__" 444 (.ref 194)), (de P "__eq__" 452 (.ref 201)), (de P "__ne__" 460 (.ref 208)), (de P "_serialize_to" 468 (.ref 215)), (de P "__static_attributes__" 470 (.ref 216))] 10), #[]⟩
noncomputable def ob118 : Obj := ⟨.none, none, (.fields #[(.int 100 0), (.int 4 0), (.ref 193), (.int 104 0), (.int 4 0), (.ref 200), (.int 107 0), (.int 4 0), (.ref 207), (.int 110 0), (.int 4 0), (.ref 214)]), #[]⟩
noncomputable def ob119 : Obj := ⟨(.type "code"), none, (.fields #[(.str (ys "LiteralToken") 421), (.str (ys "LiteralToken") 422), (.str (ys "/claim/cut.py") 423), (.int 96 0), (.int 0 0), (.int 0 0), (.int 0 0), (.int 0 0), (.ref 183), (.bool false), (.int 181 0), (.ref 184), .none, .none, .none, .none, (.int 424 0), (.int 96 0), (.str (ys "/claim/cut.py") 425)]), #[]⟩
noncomputable def ob120 : Obj := ⟨(.type "frame"), none, .plain, #[(some (.ref 185)), (some (.ref 3)), (some (.ref 182)), none, (some (.str (ys "tinycss2.ast") 233)), none, (some (.ref 0))]⟩
noncomputable def ob121 : Obj := ⟨(.type "list"), none, (.seq #[(.str (ys "value") 431)] 0), #[]⟩
noncomputable def ob122 : Obj := ⟨(.type "tuple"), none, (.seq #[(.str (ys "self") 438), (.str (ys "line") 439), (.str (ys "column") 440), (.str (ys "value") 441)] 0), #[]⟩
noncomputable def ob123 : Obj := ⟨.none, none, (.func (fn (mth 13 2) "__init__" "LiteralToken.__init__" 0 [] .none .none .none .none none .none .none 0)), #[]⟩
noncomputable def ob124 : Obj := ⟨(.type "code"), none, (.fields #[(.str (ys "__init__") 435), (.str (ys "LiteralToken.__init__") 436), (.str (ys "/claim/cut.py") 437), (.int 100 0), (.int 4 0), (.int 0 0), (.int 0 0), (.int 3 0), (.ref 188), (.bool true), (.int 181 0), (.ref 189), .none, (.ref 190), (.ref 191), (.ref 192), (.int 442 0), (.int 100 0), (.str (ys "/claim/cut.py") 443)]), #[]⟩
noncomputable def ob125 : Obj := ⟨(.type "function"), none, (.func (fn (mth 13 2) "__init__" "LiteralToken.__init__" 3 [] .none .none .none (.str (ys "tinycss2.ast") 233) none (.ref 193) .none 0)), #[]⟩
noncomputable def ob126 : Obj := ⟨(.type "tuple"), none, (.seq #[(.str (ys "self") 448), (.str (ys "other") 449)] 0), #[]⟩
noncomputable def ob127 : Obj := ⟨.none, none, (.func (fn (mth 13 3) "__eq__" "LiteralToken.__eq__" 0 [] .none .none .none .none none .none .none 0)), #[]⟩
noncomputable def ob128 : Obj := ⟨(.type "code"), none, (.fields #[(.str (ys "__eq__") 445), (.str (ys "LiteralToken.__eq__") 446), (.str (ys "/claim/cut.py") 447), (.int 104 0), (.int 2 0), (.int 0 0), (.int 0 0), (.int 3 0), (.ref 195), (.bool true), (.int 181 0), (.ref 196), .none, (.ref 197), (.ref 198), (.ref 199), (.int 450 0), (.int 104 0), (.str (ys "/claim/cut.py") 451)]), #[]⟩
noncomputable def ob129 : Obj := ⟨(.type "function"), none, (.func (fn (mth 13 3) "__eq__" "LiteralToken.__eq__" 3 [] .none .none .none (.str (ys "tinycss2.ast") 233) none (.ref 200) .none 0)), #[]⟩
noncomputable def ob130 : Obj := ⟨(.type "tuple"), none, (.seq #[(.str (ys "self") 456), (.str (ys "other") 457)] 0), #[]⟩
noncomputable def ob131 : Obj := ⟨.none, none, (.func (fn (mth 13 4) "__ne__" "LiteralToken.__ne__" 0 [] .none .none .none .none none .none .none 0)), #[]⟩
noncomputable def ob132 : Obj := ⟨(.type "code"), none, (.fields #[(.str (ys "__ne__") 453), (.str (ys "LiteralToken.__ne__") 454), (.str (ys "/claim/cut.py") 455), (.int 107 0), (.int 2 0), (.int 0 0), (.int 0 0), (.int 3 0), (.ref 202), (.bool true), (.int 181 0), (.ref 203), .none, (.ref 204), (.ref 205), (.ref 206), (.int 458 0), (.int 107 0), (.str (ys "/claim/cut.py") 459)]), #[]⟩
noncomputable def ob133 : Obj := ⟨(.type "function"), none, (.func (fn (mth 13 4) "__ne__" "LiteralToken.__ne__" 3 [] .none .none .none (.str (ys "tinycss2.ast") 233) none (.ref 207) .none 0)), #[]⟩
noncomputable def ob134 : Obj := ⟨(.type "tuple"), none, (.seq #[(.str (ys "self") 464), (.str (ys "write") 465)] 0), #[]⟩
noncomputable def ob135 : Obj := ⟨.none, none, (.func (fn (mth 13 5) "_serialize_to" "LiteralToken._serialize_to" 0 [] .none .none .none .none none .none .none 0)), #[]⟩
noncomputable def ob136 : Obj := ⟨(.type "code"), none, (.fields #[(.str (ys "_serialize_to") 461), (.str (ys "LiteralToken._serialize_to") 462), (.str (ys "/claim/cut.py") 463), (.int 110 0), (.int 2 0), (.int 0 0), (.int 0 0), (.int 3 0), (.ref 209), (.bool true), (.int 181 0), (.ref 210), .none, (.ref 211), (.ref 212), (.ref 213), (.int 466 0), (.int 110 0), (.str (ys "/claim/cut.py") 467)]), #[]⟩
noncomputable def ob137 : Obj := ⟨(.type "function"), none, (.func (fn (mth 13 5) "_serialize_to" "LiteralToken._serialize_to" 3 [] .none .none .none (.str (ys "tinycss2.ast") 233) none (.ref 214) .none 0)), #[]⟩
noncomputable def ob138 : Obj := ⟨(.type "tuple"), none, (.seq #[(.str (ys "value") 469)] 0), #[]⟩
noncomputable def ob139 : Obj := ⟨(.type "list"), none, (.seq #[(.str (ys "value") 431)] 1), #[]⟩
noncomputable def ob140 (P : Params) : Obj := ⟨(.type "dict"), none, (.dict #[(de P "__module__" 426 (.str (ys "tinycss2.ast") 233)), (de P "__firstlineno__" 430 (.int 96 429)), (de P "__slots__" 432 (.ref 187)), (de P "type" 434 (.str (ys "literal") 433)), (de P "__init__" 444 (.ref 194)), (de P "__eq__" 452 (.ref 201)), (de P "__ne__" 460 (.ref 208)), (de P "_serialize_to" 468 (.ref 215)), (de P "__static_attributes__" 470 (.ref 216)), (de P "value" 472 (.ref 220)), (de P "__doc__" 473 .none), (de P "__hash__" 474 .none)] 4), #[]⟩
noncomputable def ob141 : Obj := ⟨(.type "type"), none, (.cls ⟨(ys "LiteralToken"), [(.ref 87)], [(.ref 219), (.ref 87), (.type "object")], 218, (ys "LiteralToken"), false, [(ys "source_column"), (ys "source_line"), (ys "value")], [], false, none, false⟩), #[(some (.ref 180)), none, (some (.str (ys "LiteralToken") 419)), (some (.str (ys "LiteralToken") 427)), (some (.builtin "object.__new__")), (some (.bool false))]⟩
noncomputable def ob142 : Obj := ⟨(.type "member_descriptor"), none, (.fields #[(.str (ys "value") 471), (.ref 219), (.builtin "proto.slot"), (.builtin "proto.slot#set"), (.int 2 0)]), #[]⟩
noncomputable def ob143 : Obj := ⟨(.type "super"), none, (.fields #[(.ref 219), (.ref 219), (.ref 219)]), #[]⟩
noncomputable def ob144 : Obj := ⟨(.type "builtin_function_or_method"), none, (.fields #[(.builtin "object.__init_subclass__"), (.ref 219)]), #[]⟩
noncomputable def ob145 (P : Params) : Obj := ⟨(.type "dict"), none, (.dict #[(de P "__module__" 484 (.str (ys "tinycss2.ast") 233)), (de P "__qualname__" 486 (.str (ys "IdentToken") 485)), (de P "__firstlineno__" 488 (.int 112 487)), (de P "__slots__" 491 (.ref 230)), (de P "type" 493 (.str (ys "ident") 492)), (de P "__init__" 503 (.ref 237)), (de P "_serialize_to" 511 (.ref 244)), (de P "__static_attributes__" 514 (.ref 245))] 8), #[]⟩
noncomputable def ob146 : Obj := ⟨.none, none, (.fields #[(.int 116 0), (.int 4 0), (.ref 236), (.int 124 0), (.int 4 0), (.ref 243)]), #[]⟩
noncomputable def ob147 : Obj := ⟨(.type "code"), none, (.fields #[(.str (ys "IdentToken") 479), (.str (ys "IdentToken") 480), (.str (ys "/claim/cut.py") 481), (.int 112 0), (.int 0 0), (.int 0 0), (.int 0 0), (.int 0 0), (.ref 226), (.bool false), (.int 181 0), (.ref 227), .none, .none, .none, .none, (.int 482 0), (.int 112 0), (.str (ys "/claim/cut.py") 483)]), #[]⟩
noncomputable def ob148 : Obj := ⟨(.type "frame"), none, .plain, #[(some (.ref 228)), (some (.ref 3)), (some (.ref 225)), none, (some (.str (ys "tinycss2.ast") 233)), none, (some (.ref 0))]⟩
noncomputable def ob149 : Obj := ⟨(.type "list"), none, (.seq #[(.str (ys "lower_value") 489), (.str (ys "value") 490)] 0), #[]⟩
noncomputable def ob150 : Obj := ⟨(.type "tuple"), none, (.seq #[(.str (ys "self") 497), (.str (ys "line") 498), (.str (ys "column") 499), (.str (ys "value") 500)] 0), #[]⟩
noncomputable def ob151 : Obj := ⟨.none, none, (.func (fn (mth 14 2) "__init__" "IdentToken.__init__" 0 [] .none .none .none .none none .none .none 0)), #[]⟩
noncomputable def ob152 : Obj := ⟨(.type "code"), none, (.fields #[(.str (ys "__init__") 494), (.str (ys "IdentToken.__init__") 495), (.str (ys "/claim/cut.py") 496), (.int 116 0), (.int 4 0), (.int 0 0), (.int 0 0), (.int 3 0), (.ref 231), (.bool true), (.int 181 0), (.ref 232), .none, (.ref 233), (.ref 234), (.ref 235), (.int 501 0), (.int 116 0), (.str (ys "/claim/cut.py") 502)]), #[]⟩
noncomputable def ob153 : Obj := ⟨(.type "function"), none, (.func (fn (mth 14 2) "__init__" "IdentToken.__init__" 3 [] .none .none .none (.str (ys "tinycss2.ast") 233) none (.ref 236) .none 0)), #[]⟩
noncomputable def ob154 : Obj := ⟨(.type "tuple"), none, (.seq #[(.str (ys "self") 507), (.str (ys "write") 508)] 0), #[]⟩
noncomputable def ob155 : Obj := ⟨.none, none, (.func (fn (mth 14 3) "_serialize_to" "IdentToken._serialize_to" 0 [] .none .none .none .none none .none .none 0)), #[]⟩
noncomputable def ob156 : Obj := ⟨(.type "code"), none, (.fields #[(.str (ys "_serialize_to") 504), (.str (ys "IdentToken._serialize_to") 505), (.str (ys "/claim/cut.py") 506), (.int 124 0), (.int 2 0), (.int 0 0), (.int 0 0), (.int 3 0), (.ref 238), (.bool true), (.int 181 0), (.ref 239), .none, (.ref 240), (.ref 241), (.ref 242), (.int 509 0), (.int 124 0), (.str (ys "/claim/cut.py") 510)]), #[]⟩
noncomputable def ob157 : Obj := ⟨(.type "function"), none, (.func (fn (mth 14 3) "_serialize_to" "IdentToken._serialize_to" 3 [] .none .none .none (.str (ys "tinycss2.ast") 233) none (.ref 243) .none 0)), #[]⟩
noncomputable def ob158 : Obj := ⟨(.type "tuple"), none, (.seq #[(.str (ys "lower_value") 512), (.str (ys "value") 513)] 0), #[]⟩
noncomputable def ob159 : Obj := ⟨(.type "list"), none, (.seq #[(.str (ys "lower_value") 489), (.str (ys "value") 490)] 1), #[]⟩
noncomputable def ob160 (P : Params) : Obj := ⟨(.type "dict"), none, (.dict #[(de P "__module__" 484 (.str (ys "tinycss2.ast") 233)), (de P "__firstlineno__" 488 (.int 112 487)), (de P "__slots__" 491 (.ref 230)), (de P "type" 493 (.str (ys "ident") 492)), (de P "__init__" 503 (.ref 237)), (de P "_serialize_to" 511 (.ref 244)), (de P "__static_attributes__" 514 (.ref 245)), (de P "lower_value" 516 (.ref 249)), (de P "value" 518 (.ref 250)), (de P "__doc__" 519 .none)] 4), #[]⟩
noncomputable def ob161 : Obj := ⟨(.type "type"), none, (.cls ⟨(ys "IdentToken"), [(.ref 87)], [(.ref 248), (.ref 87), (.type "object")], 247, (ys "IdentToken"), false, [(ys "source_column"), (ys "source_line"), (ys "lower_value"), (ys "value")], [], false, none, false⟩), #[(some (.ref 223)), none, (some (.str (ys "IdentToken") 477)), (some (.str (ys "IdentToken") 485)), (some (.builtin "object.__new__")), (some (.bool false))]⟩
noncomputable def ob162 : Obj := ⟨(.type "member_descriptor"), none, (.fields #[(.str (ys "lower_value") 515), (.ref 248), (.builtin "proto.slot"), (.builtin "proto.slot#set"), (.int 3 0)]), #[]⟩
noncomputable def ob163 : Obj := ⟨(.type "member_descriptor"), none, (.fields #[(.str (ys "value") 517), (.ref 248), (.builtin "proto.slot"), (.builtin "proto.slot#set"), (.int 2 0)]), #[]⟩
noncomputable def ob164 : Obj := ⟨(.type "super"), none, (.fields #[(.ref 248), (.ref 248), (.ref 248)]), #[]⟩
noncomputable def ob165 : Obj := ⟨(.type "builtin_function_or_method"), none, (.fields #[(.builtin "object.__init_subclass__"), (.ref 248)]), #[]⟩
noncomputable def ob166 (P : Params) : Obj := ⟨(.type "dict"), none, (.dict #[(de P "__module__" 529 (.str (ys "tinycss2.ast") 233)), (de P "__qualname__" 531 (.str (ys "AtKeywordToken") 530)), (de P "__firstlineno__" 533 (.int 126 532)), (de P "__slots__" 536 (.ref 260)), (de P "type" 538 (.str (ys "at-keyword") 537)), (de P "__init__" 548 (.ref 267)), (de P "_serialize_to" 556 (.ref 274)), (de P "__static_attributes__" 559 (.ref 275))] 8), #[]⟩
noncomputable def ob167 : Obj := ⟨.none, none, (.fields #[(.int 130 0), (.int 4 0), (.ref 266), (.int 138 0), (.int 4 0), (.ref 273)]), #[]⟩
noncomputable def ob168 : Obj := ⟨(.type "code"), none, (.fields #[(.str (ys "AtKeywordToken") 524), (.str (ys "AtKeywordToken") 525), (.str (ys "/claim/cut.py") 526), (.int 126 0), (.int 0 0), (.int 0 0), (.int 0 0), (.int 0 0), (.ref 256), (.bool false), (.int 181 0), (.ref 257), .none, .none, .none, .none, (.int 527 0), (.int 126 0), (.str (ys "/claim/cut.py") 528)]), #[]⟩
noncomputable def ob169 : Obj := ⟨(.type "frame"), none, .plain, #[(some (.ref 258)), (some (.ref 3)), (some (.ref 255)), none, (some (.str (ys "tinycss2.ast") 233)), none, (some (.ref 0))]⟩
noncomputable def ob170 : Obj := ⟨(.type "list"), none, (.seq #[(.str (ys "lower_value") 534), (.str (ys "value") 535)] 0), #[]⟩
noncomputable def ob171 : Obj := ⟨(.type "tuple"), none, (.seq #[(.str (ys "self") 542), (.str (ys "line") 543), (.str (ys "column") 544), (.str (ys "value") 545)] 0), #[]⟩
noncomputable def ob172 : Obj := ⟨.none, none, (.func (fn (mth 15 2) "__init__" "AtKeywordToken.__init__" 0 [] .none .none .none .none none .none .none 0)), #[]⟩
noncomputable def ob173 : Obj := ⟨(.type "code"), none, (.fields #[(.str (ys "__init__") 539), (.str (ys "AtKeywordToken.__init__") 540), (.str (ys "/claim/cut.py") 541), (.int 130 0), (.int 4 0), (.int 0 0), (.int 0 0), (.int 3 0), (.ref 261), (.bool true), (.int 181 0), (.ref 262), .none, (.ref 263), (.ref 264), (.ref 265), (.int 546 0), (.int 130 0), (.str (ys "/claim/cut.py") 547)]), #[]⟩
noncomputable def ob174 : Obj := ⟨(.type "function"), none, (.func (fn (mth 15 2) "__init__" "AtKeywordToken.__init__" 3 [] .none .none .none (.str (ys "tinycss2.ast") 233) none (.ref 266) .none 0)), #[]⟩
noncomputable def ob175 : Obj := ⟨(.type "tuple"), none, (.seq #[(.str (ys "self") 552), (.str (ys "write") 553)] 0), #[]⟩
noncomputable def ob176 : Obj := ⟨.none, none, (.func (fn (mth 15 3) "_serialize_to" "AtKeywordToken._serialize_to" 0 [] .none .none .none .none none .none .none 0)), #[]⟩
noncomputable def ob177 : Obj := ⟨(.type "code"), none, (.fields #[(.str (ys "_serialize_to") 549), (.str (ys "AtKeywordToken._serialize_to") 550), (.str (ys "/claim/cut.py") 551), (.int 138 0), (.int 2 0), (.int 0 0), (.int 0 0), (.int 3 0), (.ref 268), (.bool true), (.int 181 0), (.ref 269), .none, (.ref 270), (.ref 271), (.ref 272), (.int 554 0), (.int 138 0), (.str (ys "/claim/cut.py") 555)]), #[]⟩
noncomputable def ob178 : Obj := ⟨(.type "function"), none, (.func (fn (mth 15 3) "_serialize_to" "AtKeywordToken._serialize_to" 3 [] .none .none .none (.str (ys "tinycss2.ast") 233) none (.ref 273) .none 0)), #[]⟩
noncomputable def ob179 : Obj := ⟨(.type "tuple"), none, (.seq #[(.str (ys "lower_value") 557), (.str (ys "value") 558)] 0), #[]⟩
noncomputable def ob180 : Obj := ⟨(.type "list"), none, (.seq #[(.str (ys "lower_value") 534), (.str (ys "value") 535)] 1), #[]⟩
noncomputable def ob181 (P : Params) : Obj := ⟨(.type "dict"), none, (.dict #[(de P "__module__" 529 (.str (ys "tinycss2.ast") 233)), (de P "__firstlineno__" 533 (.int 126 532)), (de P "__slots__" 536 (.ref 260)), (de P "type" 538 (.str (ys "at-keyword") 537)), (de P "__init__" 548 (.ref 267)), (de P "_serialize_to" 556 (.ref 274)), (de P "__static_attributes__" 559 (.ref 275)), (de P "lower_value" 561 (.ref 279)), (de P "value" 563 (.ref 280)), (de P "__doc__" 564 .none)] 4), #[]⟩
noncomputable def ob182 : Obj := ⟨(.type "type"), none, (.cls ⟨(ys "AtKeywordToken"), [(.ref 87)], [(.ref 278), (.ref 87), (.type "object")], 277, (ys "AtKeywordToken"), false, [(ys "source_column"), (ys "source_line"), (ys "lower_value"), (ys "value")], [], false, none, false⟩), #[(some (.ref 253)), none, (some (.str (ys "AtKeywordToken") 522)), (some (.str (ys "AtKeywordToken") 530)), (some (.builtin "object.__new__")), (some (.bool false))]⟩
noncomputable def ob183 : Obj := ⟨(.type "member_descriptor"), none, (.fields #[(.str (ys "lower_value") 560), (.ref 278), (.builtin "proto.slot"), (.builtin "proto.slot#set"), (.int 3 0)]), #[]⟩
noncomputable def ob184 : Obj := ⟨(.type "member_descriptor"), none, (.fields #[(.str (ys "value") 562), (.ref 278), (.builtin "proto.slot"), (.builtin "proto.slot#set"), (.int 2 0)]), #[]⟩
noncomputable def ob185 : Obj := ⟨(.type "super"), none, (.fields #[(.ref 278), (.ref 278), (.ref 278)]), #[]⟩
noncomputable def ob186 : Obj := ⟨(.type "builtin_function_or_method"), none, (.fields #[(.builtin "object.__init_subclass__"), (.ref 278)]), #[]⟩
noncomputable def ob187 (P : Params) : Obj := ⟨(.type "dict"), none, (.dict #[(de P "__module__" 574 (.str (ys "tinycss2.ast") 233)), (de P "__qualname__" 576 (.str (ys "HashToken") 575)), (de P "__firstlineno__" 578 (.int 141 577)), (de P "__slots__" 581 (.ref 290)), (de P "type" 583 (.str (ys "hash") 582)), (de P "__init__" 594 (.ref 297)), (de P "_serialize_to" 602 (.ref 304)), (de P "__static_attributes__" 605 (.ref 305))] 8), #[]⟩
noncomputable def ob188 : Obj := ⟨.none, none, (.fields #[(.int 145 0), (.int 4 0), (.ref 296), (.int 150 0), (.int 4 0), (.ref 303)]), #[]⟩
noncomputable def ob189 : Obj := ⟨(.type "code"), none, (.fields #[(.str (ys "HashToken") 569), (.str (ys "HashToken") 570), (.str (ys "/claim/cut.py") 571), (.int 141 0), (.int 0 0), (.int 0 0), (.int 0 0), (.int 0 0), (.ref 286), (.bool false), (.int 181 0), (.ref 287), .none, .none, .none, .none, (.int 572 0), (.int 141 0), (.str (ys "/claim/cut.py") 573)]), #[]⟩
noncomputable def ob190 : Obj := ⟨(.type "frame"), none, .plain, #[(some (.ref 288)), (some (.ref 3)), (some (.ref 285)), none, (some (.str (ys "tinycss2.ast") 233)), none, (some (.ref 0))]⟩
noncomputable def ob191 : Obj := ⟨(.type "list"), none, (.seq #[(.str (ys "is_identifier") 579), (.str (ys "value") 580)] 0), #[]⟩
noncomputable def ob192 : Obj := ⟨(.type "tuple"), none, (.seq #[(.str (ys "self") 587), (.str (ys "line") 588), (.str (ys "column") 589), (.str (ys "value") 590), (.str (ys "is_identifier") 591)] 0), #[]⟩
noncomputable def ob193 : Obj := ⟨.none, none, (.func (fn (mth 16 2) "__init__" "HashToken.__init__" 0 [] .none .none .none .none none .none .none 0)), #[]⟩
noncomputable def ob194 : Obj := ⟨(.type "code"), none, (.fields #[(.str (ys "__init__") 584), (.str (ys "HashToken.__init__") 585), (.str (ys "/claim/cut.py") 586), (.int 145 0), (.int 5 0), (.int 0 0), (.int 0 0), (.int 3 0), (.ref 291), (.bool true), (.int 181 0), (.ref 292), .none, (.ref 293), (.ref 294), (.ref 295), (.int 592 0), (.int 145 0), (.str (ys "/claim/cut.py") 593)]), #[]⟩
noncomputable def ob195 : Obj := ⟨(.type "function"), none, (.func (fn (mth 16 2) "__init__" "HashToken.__init__" 3 [] .none .none .none (.str (ys "tinycss2.ast") 233) none (.ref 296) .none 0)), #[]⟩
noncomputable def ob196 : Obj := ⟨(.type "tuple"), none, (.seq #[(.str (ys "self") 598), (.str (ys "write") 599)] 0), #[]⟩
noncomputable def ob197 : Obj := ⟨.none, none, (.func (fn (mth 16 3) "_serialize_to" "HashToken._serialize_to" 0 [] .none .none .none .none none .none .none 0)), #[]⟩
noncomputable def ob198 : Obj := ⟨(.type "code"), none, (.fields #[(.str (ys "_serialize_to") 595), (.str (ys "HashToken._serialize_to") 596), (.str (ys "/claim/cut.py") 597), (.int 150 0), (.int 2 0), (.int 0 0), (.int 0 0), (.int 3 0), (.ref 298), (.bool true), (.int 181 0), (.ref 299), .none, (.ref 300), (.ref 301), (.ref 302), (.int 600 0), (.int 150 0), (.str (ys "/claim/cut.py") 601)]), #[]⟩
noncomputable def ob199 : Obj := ⟨(.type "function"), none, (.func (fn (mth 16 3) "_serialize_to" "HashToken._serialize_to" 3 [] .none .none .none (.str (ys "tinycss2.ast") 233) none (.ref 303) .none 0)), #[]⟩
noncomputable def ob200 : Obj := ⟨(.type "tuple"), none, (.seq #[(.str (ys "is_identifier") 603), (.str (ys "value") 604)] 0), #[]⟩
noncomputable def ob201 : Obj := ⟨(.type "list"), none, (.seq #[(.str (ys "is_identifier") 579), (.str (ys "value") 580)] 1), #[]⟩
noncomputable def ob202 (P : Params) : Obj := ⟨(.type "dict"), none, (.dict #[(de P "__module__" 574 (.str (ys "tinycss2.ast") 233)), (de P "__firstlineno__" 578 (.int 141 577)), (de P "__slots__" 581 (.ref 290)), (de P "type" 583 (.str (ys "hash") 582)), (de P "__init__" 594 (.ref 297)), (de P "_serialize_to" 602 (.ref 304)), (de P "__static_attributes__" 605 (.ref 305)), (de P "is_identifier" 607 (.ref 309)), (de P "value" 609 (.ref 310)), (de P "__doc__" 610 .none)] 4), #[]⟩
noncomputable def ob203 : Obj := ⟨(.type "type"), none, (.cls ⟨(ys "HashToken"), [(.ref 87)], [(.ref 308), (.ref 87), (.type "object")], 307, (ys "HashToken"), false, [(ys "source_column"), (ys "source_line"), (ys "is_identifier"), (ys "value")], [], false, none, false⟩), #[(some (.ref 283)), none, (some (.str (ys "HashToken") 567)), (some (.str (ys "HashToken") 575)), (some (.builtin "object.__new__")), (some (.bool false))]⟩
noncomputable def ob204 : Obj := ⟨(.type "member_descriptor"), none, (.fields #[(.str (ys "is_identifier") 606), (.ref 308), (.builtin "proto.slot"), (.builtin "proto.slot#set"), (.int 3 0)]), #[]⟩
noncomputable def ob205 : Obj := ⟨(.type "member_descriptor"), none, (.fields #[(.str (ys "value") 608), (.ref 308), (.builtin "proto.slot"), (.builtin "proto.slot#set"), (.int 2 0)]), #[]⟩
noncomputable def ob206 : Obj := ⟨(.type "super"), none, (.fields #[(.ref 308), (.ref 308), (.ref 308)]), #[]⟩
noncomputable def ob207 : Obj := ⟨(.type "builtin_function_or_method"), none, (.fields #[(.builtin "object.__init_subclass__"), (.ref 308)]), #[]⟩
noncomputable def ob208 (P : Params) : Obj := ⟨(.type "dict"), none, (.dict #[(de P "__module__" 620 (.str (ys "tinycss2.ast") 233)), (de P "__qualname__" 622 (.str (ys "StringToken") 621)), (de P "__firstlineno__" 624 (.int 156 623)), (de P "__slots__" 627 (.ref 320)), (de P "type" 629 (.str (ys "string") 628)), (de P "__init__" 640 (.ref 327)), (de P "_serialize_to" 648 (.ref 334)), (de P "__static_attributes__" 651 (.ref 335))] 8), #[]⟩
noncomputable def ob209 : Obj := ⟨.none, none, (.fields #[(.int 160 0), (.int 4 0), (.ref 326), (.int 165 0), (.int 4 0), (.ref 333)]), #[]⟩
noncomputable def ob210 : Obj := ⟨(.type "code"), none, (.fields #[(.str (ys "StringToken") 615), (.str (ys "StringToken") 616), (.str (ys "/claim/cut.py") 617), (.int 156 0), (.int 0 0), (.int 0 0), (.int 0 0), (.int 0 0), (.ref 316), (.bool false), (.int 181 0), (.ref 317), .none, .none, .none, .none, (.int 618 0), (.int 156 0), (.str (ys "/claim/cut.py") 619)]), #[]⟩
noncomputable def ob211 : Obj := ⟨(.type "frame"), none, .plain, #[(some (.ref 318)), (some (.ref 3)), (some (.ref 315)), none, (some (.str (ys "tinycss2.ast") 233)), none, (some (.ref 0))]⟩
noncomputable def ob212 : Obj := ⟨(.type "list"), none, (.seq #[(.str (ys "representation") 625), (.str (ys "value") 626)] 0), #[]⟩
noncomputable def ob213 : Obj := ⟨(.type "tuple"), none, (.seq #[(.str (ys "self") 633), (.str (ys "line") 634), (.str (ys "column") 635), (.str (ys "value") 636), (.str (ys "representation") 637)] 0), #[]⟩
noncomputable def ob214 : Obj := ⟨.none, none, (.func (fn (mth 17 2) "__init__" "StringToken.__init__" 0 [] .none .none .none .none none .none .none 0)), #[]⟩
noncomputable def ob215 : Obj := ⟨(.type "code"), none, (.fields #[(.str (ys "__init__") 630), (.str (ys "StringToken.__init__") 631), (.str (ys "/claim/cut.py") 632), (.int 160 0), (.int 5 0), (.int 0 0), (.int 0 0), (.int 3 0), (.ref 321), (.bool true), (.int 181 0), (.ref 322), .none, (.ref 323), (.ref 324), (.ref 325), (.int 638 0), (.int 160 0), (.str (ys "/claim/cut.py") 639)]), #[]⟩
noncomputable def ob216 : Obj := ⟨(.type "function"), none, (.func (fn (mth 17 2) "__init__" "StringToken.__init__" 3 [] .none .none .none (.str (ys "tinycss2.ast") 233) none (.ref 326) .none 0)), #[]⟩
noncomputable def ob217 : Obj := ⟨(.type "tuple"), none, (.seq #[(.str (ys "self") 644), (.str (ys "write") 645)] 0), #[]⟩
noncomputable def ob218 : Obj := ⟨.none, none, (.func (fn (mth 17 3) "_serialize_to" "StringToken._serialize_to" 0 [] .none .none .none .none none .none .none 0)), #[]⟩
noncomputable def ob219 : Obj := ⟨(.type "code"), none, (.fields #[(.str (ys "_serialize_to") 641), (.str (ys "StringToken._serialize_to") 642), (.str (ys "/claim/cut.py") 643), (.int 165 0), (.int 2 0), (.int 0 0), (.int 0 0), (.int 3 0), (.ref 328), (.bool true), (.int 181 0), (.ref 329), .none, (.ref 330), (.ref 331), (.ref 332), (.int 646 0), (.int 165 0), (.str (ys "/claim/cut.py") 647)]), #[]⟩
noncomputable def ob220 : Obj := ⟨(.type "function"), none, (.func (fn (mth 17 3) "_serialize_to" "StringToken._serialize_to" 3 [] .none .none .none (.str (ys "tinycss2.ast") 233) none (.ref 333) .none 0)), #[]⟩
noncomputable def ob221 : Obj := ⟨(.type "tuple"), none, (.seq #[(.str (ys "representation") 649), (.str (ys "value") 650)] 0), #[]⟩
noncomputable def ob222 : Obj := ⟨(.type "list"), none, (.seq #[(.str (ys "representation") 625), (.str (ys "value") 626)] 1), #[]⟩
noncomputable def ob223 (P : Params) : Obj := ⟨(.type "dict"), none, (.dict #[(de P "__module__" 620 (.str (ys "tinycss2.ast") 233)), (de P "__firstlineno__" 624 (.int 156 623)), (de P "__slots__" 627 (.ref 320)), (de P "type" 629 (.str (ys "string") 628)), (de P "__init__" 640 (.ref 327)), (de P "_serialize_to" 648 (.ref 334)), (de P "__static_attributes__" 651 (.ref 335)), (de P "representation" 653 (.ref 339)), (de P "value" 655 (.ref 340)), (de P "__doc__" 656 .none)] 4), #[]⟩
noncomputable def ob224 : Obj := ⟨(.type "type"), none, (.cls ⟨(ys "StringToken"), [(.ref 87)], [(.ref 338), (.ref 87), (.type "object")], 337, (ys "StringToken"), false, [(ys "source_column"), (ys "source_line"), (ys "representation"), (ys "value")], [], false, none, false⟩), #[(some (.ref 313)), none, (some (.str (ys "StringToken") 613)), (some (.str (ys "StringToken") 621)), (some (.builtin "object.__new__")), (some (.bool false))]⟩
noncomputable def ob225 : Obj := ⟨(.type "member_descriptor"), none, (.fields #[(.str (ys "representation") 652), (.ref 338), (.builtin "proto.slot"), (.builtin "proto.slot#set"), (.int 3 0)]), #[]⟩
noncomputable def ob226 : Obj := ⟨(.type "member_descriptor"), none, (.fields #[(.str (ys "value") 654), (.ref 338), (.builtin "proto.slot"), (.builtin "proto.slot#set"), (.int 2 0)]), #[]⟩
noncomputable def ob227 : Obj := ⟨(.type "super"), none, (.fields #[(.ref 338), (.ref 338), (.ref 338)]), #[]⟩
noncomputable def ob228 : Obj := ⟨(.type "builtin_function_or_method"), none, (.fields #[(.builtin "object.__init_subclass__"), (.ref 338)]), #[]⟩
noncomputable def ob229 (P : Params) : Obj := ⟨(.type "dict"), none, (.dict #[(de P "__module__" 666 (.str (ys "tinycss2.ast") 233)), (de P "__qualname__" 668 (.str (ys "URLToken") 667)), (de P "__firstlineno__" 670 (.int 167 669)), (de P "__slots__" 673 (.ref 350)), (de P "type" 675 (.str (ys "url") 674)), (de P "__init__" 686 (.ref 357)), (de P "_serialize_to" 694 (.ref 364)), (de P "__static_attributes__" 697 (.ref 365))] 8), #[]⟩
noncomputable def ob230 : Obj := ⟨.none, none, (.fields #[(.int 171 0), (.int 4 0), (.ref 356), (.int 176 0), (.int 4 0), (.ref 363)]), #[]⟩
noncomputable def ob231 : Obj := ⟨(.type "code"), none, (.fields #[(.str (ys "URLToken") 661), (.str (ys "URLToken") 662), (.str (ys "/claim/cut.py") 663), (.int 167 0), (.int 0 0), (.int 0 0), (.int 0 0), (.int 0 0), (.ref 346), (.bool false), (.int 181 0), (.ref 347), .none, .none, .none, .none, (.int 664 0), (.int 167 0), (.str (ys "/claim/cut.py") 665)]), #[]⟩
noncomputable def ob232 : Obj := ⟨(.type "frame"), none, .plain, #[(some (.ref 348)), (some (.ref 3)), (some (.ref 345)), none, (some (.str (ys "tinycss2.ast") 233)), none, (some (.ref 0))]⟩
noncomputable def ob233 : Obj := ⟨(.type "list"), none, (.seq #[(.str (ys "representation") 671), (.str (ys "value") 672)] 0), #[]⟩
noncomputable def ob234 : Obj := ⟨(.type "tuple"), none, (.seq #[(.str (ys "self") 679), (.str (ys "line") 680), (.str (ys "column") 681), (.str (ys "value") 682), (.str (ys "representation") 683)] 0), #[]⟩
noncomputable def ob235 : Obj := ⟨.none, none, (.func (fn (mth 18 2) "__init__" "URLToken.__init__" 0 [] .none .none .none .none none .none .none 0)), #[]⟩
noncomputable def ob236 : Obj := ⟨(.type "code"), none, (.fields #[(.str (ys "__init__") 676), (.str (ys "URLToken.__init__") 677), (.str (ys "/claim/cut.py") 678), (.int 171 0), (.int 5 0), (.int 0 0), (.int 0 0), (.int 3 0), (.ref 351), (.bool true), (.int 181 0), (.ref 352), .none, (.ref 353), (.ref 354), (.ref 355), (.int 684 0), (.int 171 0), (.str (ys "/claim/cut.py") 685)]), #[]⟩
noncomputable def ob237 : Obj := ⟨(.type "function"), none, (.func (fn (mth 18 2) "__init__" "URLToken.__init__" 3 [] .none .none .none (.str (ys "tinycss2.ast") 233) none (.ref 356) .none 0)), #[]⟩
noncomputable def ob238 : Obj := ⟨(.type "tuple"), none, (.seq #[(.str (ys "self") 690), (.str (ys "write") 691)] 0), #[]⟩
noncomputable def ob239 : Obj := ⟨.none, none, (.func (fn (mth 18 3) "_serialize_to" "URLToken._serialize_to" 0 [] .none .none .none .none none .none .none 0)), #[]⟩
noncomputable def ob240 : Obj := ⟨(.type "code"), none, (.fields #[(.str (ys "_serialize_to") 687), (.str (ys "URLToken._serialize_to") 688), (.str (ys "/claim/cut.py") 689), (.int 176 0), (.int 2 0), (.int 0 0), (.int 0 0), (.int 3 0), (.ref 358), (.bool true), (.int 181 0), (.ref 359), .none, (.ref 360), (.ref 361), (.ref 362), (.int 692 0), (.int 176 0), (.str (ys "/claim/cut.py") 693)]), #[]⟩
noncomputable def ob241 : Obj := ⟨(.type "function"), none, (.func (fn (mth 18 3) "_serialize_to" "URLToken._serialize_to" 3 [] .none .none .none (.str (ys "tinycss2.ast") 233) none (.ref 363) .none 0)), #[]⟩
noncomputable def ob242 : Obj := ⟨(.type "tuple"), none, (.seq #[(.str (ys "representation") 695), (.str (ys "value") 696)] 0), #[]⟩
noncomputable def ob243 : Obj := ⟨(.type "list"), none, (.seq #[(.str (ys "representation") 671), (.str (ys "value") 672)] 1), #[]⟩
noncomputable def ob244 (P : Params) : Obj := ⟨(.type "dict"), none, (.dict #[(de P "__module__" 666 (.str (ys "tinycss2.ast") 233)), (de P "__firstlineno__" 670 (.int 167 669)), (de P "__slots__" 673 (.ref 350)), (de P "type" 675 (.str (ys "url") 674)), (de P "__init__" 686 (.ref 357)), (de P "_serialize_to" 694 (.ref 364)), (de P "__static_attributes__" 697 (.ref 365)), (de P "representation" 699 (.ref 369)), (de P "value" 701 (.ref 370)), (de P "__doc__" 702 .none)] 4), #[]⟩
noncomputable def ob245 : Obj := ⟨(.type "type"), none, (.cls ⟨(ys "URLToken"), [(.ref 87)], [(.ref 368), (.ref 87), (.type "object")], 367, (ys "URLToken"), false, [(ys "source_column"), (ys "source_line"), (ys "representation"), (ys "value")], [], false, none, false⟩), #[(some (.ref 343)), none, (some (.str (ys "URLToken") 659)), (some (.str (ys "URLToken") 667)), (some (.builtin "object.__new__")), (some (.bool false))]⟩
noncomputable def ob246 : Obj := ⟨(.type "member_descriptor"), none, (.fields #[(.str (ys "representation") 698), (.ref 368), (.builtin "proto.slot"), (.builtin "proto.slot#set"), (.int 3 0)]), #[]⟩
noncomputable def ob247 : Obj := ⟨(.type "member_descriptor"), none, (.fields #[(.str (ys "value") 700), (.ref 368), (.builtin "proto.slot"), (.builtin "proto.slot#set"), (.int 2 0)]), #[]⟩
noncomputable def ob248 : Obj := ⟨(.type "super"), none, (.fields #[(.ref 368), (.ref 368), (.ref 368)]), #[]⟩
noncomputable def ob249 : Obj := ⟨(.type "builtin_function_or_method"), none, (.fields #[(.builtin "object.__init_subclass__"), (.ref 368)]), #[]⟩
noncomputable def ob250 (P : Params) : Obj := ⟨(.type "dict"), none, (.dict #[(de P "__module__" 712 (.str (ys "tinycss2.ast") 233)), (de P "__qualname__" 714 (.str (ys "UnicodeRangeToken") 713)), (de P "__firstlineno__" 716 (.int 178 715)), (de P "__slots__" 719 (.ref 380)), (de P "type" 721 (.str (ys "unicode-range") 720)), (de P "__init__" 732 (.ref 387)), (de P "_serialize_to" 740 (.ref 394)), (de P "__static_attributes__" 743 (.ref 395))] 8), #[]⟩
noncomputable def ob251 : Obj := ⟨.none, none, (.fields #[(.int 182 0), (.int 4 0), (.ref 386), (.int 187 0), (.int 4 0), (.ref 393)]), #[]⟩
noncomputable def ob252 : Obj := ⟨(.type "code"), none, (.fields #[(.str (ys "UnicodeRangeToken") 707), (.str (ys "UnicodeRangeToken") 708), (.str (ys "/claim/cut.py") 709), (.int 178 0), (.int 0 0), (.int 0 0), (.int 0 0), (.int 0 0), (.ref 376), (.bool false), (.int 181 0), (.ref 377), .none, .none, .none, .none, (.int 710 0), (.int 178 0), (.str (ys "/claim/cut.py") 711)]), #[]⟩
noncomputable def ob253 : Obj := ⟨(.type "frame"), none, .plain, #[(some (.ref 378)), (some (.ref 3)), (some (.ref 375)), none, (some (.str (ys "tinycss2.ast") 233)), none, (some (.ref 0))]⟩
noncomputable def ob254 : Obj := ⟨(.type "list"), none, (.seq #[(.str (ys "end") 717), (.str (ys "start") 718)] 0), #[]⟩
noncomputable def ob255 : Obj := ⟨(.type "tuple"), none, (.seq #[(.str (ys "self") 725), (.str (ys "line") 726), (.str (ys "column") 727), (.str (ys "start") 728), (.str (ys "end") 729)] 0), #[]⟩
noncomputable def ob256 : Obj := ⟨.none, none, (.func (fn (mth 19 2) "__init__" "UnicodeRangeToken.__init__" 0 [] .none .none .none .none none .none .none 0)), #[]⟩
noncomputable def ob257 : Obj := ⟨(.type "code"), none, (.fields #[(.str (ys "__init__") 722), (.str (ys "UnicodeRangeToken.__init__") 723), (.str (ys "/claim/cut.py") 724), (.int 182 0), (.int 5 0), (.int 0 0), (.int 0 0), (.int 3 0), (.ref 381), (.bool true), (.int 181 0), (.ref 382), .none, (.ref 383), (.ref 384), (.ref 385), (.int 730 0), (.int 182 0), (.str (ys "/claim/cut.py") 731)]), #[]⟩
noncomputable def ob258 : Obj := ⟨(.type "function"), none, (.func (fn (mth 19 2) "__init__" "UnicodeRangeToken.__init__" 3 [] .none .none .none (.str (ys "tinycss2.ast") 233) none (.ref 386) .none 0)), #[]⟩
noncomputable def ob259 : Obj := ⟨(.type "tuple"), none, (.seq #[(.str (ys "self") 736), (.str (ys "write") 737)] 0), #[]⟩
noncomputable def ob260 : Obj := ⟨.none, none, (.func (fn (mth 19 3) "_serialize_to" "UnicodeRangeToken._serialize_to" 0 [] .none .none .none .none none .none .none 0)), #[]⟩
noncomputable def ob261 : Obj := ⟨(.type "code"), none, (.fields #[(.str (ys "_serialize_to") 733), (.str (ys "UnicodeRangeToken._serialize_to") 734), (.str (ys "/claim/cut.py") 735), (.int 187 0), (.int 2 0), (.int 0 0), (.int 0 0), (.int 3 0), (.ref 388), (.bool true), (.int 181 0), (.ref 389), .none, (.ref 390), (.ref 391), (.ref 392), (.int 738 0), (.int 187 0), (.str (ys "/claim/cut.py") 739)]), #[]⟩
noncomputable def ob262 : Obj := ⟨(.type "function"), none, (.func (fn (mth 19 3) "_serialize_to" "UnicodeRangeToken._serialize_to" 3 [] .none .none .none (.str (ys "tinycss2.ast") 233) none (.ref 393) .none 0)), #[]⟩
noncomputable def ob263 : Obj := ⟨(.type "tuple"), none, (.seq #[(.str (ys "end") 741), (.str (ys "start") 742)] 0), #[]⟩
noncomputable def ob264 : Obj := ⟨(.type "list"), none, (.seq #[(.str (ys "end") 717), (.str (ys "start") 718)] 1), #[]⟩
noncomputable def ob265 (P : Params) : Obj := ⟨(.type "dict"), none, (.dict #[(de P "__module__" 712 (.str (ys "tinycss2.ast") 233)), (de P "__firstlineno__" 716 (.int 178 715)), (de P "__slots__" 719 (.ref 380)), (de P "type" 721 (.str (ys "unicode-range") 720)), (de P "__init__" 732 (.ref 387)), (de P "_serialize_to" 740 (.ref 394)), (de P "__static_attributes__" 743 (.ref 395)), (de P "end" 745 (.ref 399)), (de P "start" 747 (.ref 400)), (de P "__doc__" 748 .none)] 4), #[]⟩
noncomputable def ob266 : Obj := ⟨(.type "type"), none, (.cls ⟨(ys "UnicodeRangeToken"), [(.ref 87)], [(.ref 398), (.ref 87), (.type "object")], 397, (ys "UnicodeRangeToken"), false, [(ys "source_column"), (ys "source_line"), (ys "end"), (ys "start")], [], false, none, false⟩), #[(some (.ref 373)), none, (some (.str (ys "UnicodeRangeToken") 705)), (some (.str (ys "UnicodeRangeToken") 713)), (some (.builtin "object.__new__")), (some (.bool false))]⟩
noncomputable def ob267 : Obj := ⟨(.type "member_descriptor"), none, (.fields #[(.str (ys "end") 744), (.ref 398), (.builtin "proto.slot"), (.builtin "proto.slot#set"), (.int 3 0)]), #[]⟩
noncomputable def ob268 : Obj := ⟨(.type "member_descriptor"), none, (.fields #[(.str (ys "start") 746), (.ref 398), (.builtin "proto.slot"), (.builtin "proto.slot#set"), (.int 2 0)]), #[]⟩
noncomputable def ob269 : Obj := ⟨(.type "super"), none, (.fields #[(.ref 398), (.ref 398), (.ref 398)]), #[]⟩
noncomputable def ob270 : Obj := ⟨(.type "builtin_function_or_method"), none, (.fields #[(.builtin "object.__init_subclass__"), (.ref 398)]), #[]⟩
noncomputable def ob271 (P : Params) : Obj := ⟨(.type "dict"), none, (.dict #[(de P "__module__" 758 (.str (ys "tinycss2.ast") 233)), (de P "__qualname__" 760 (.str (ys "NumberToken") 759)), (de P "__firstlineno__" 762 (.int 192 761)), (de P "__slots__" 767 (.ref 410)), (de P "type" 769 (.str (ys "number") 768)), (de P "__init__" 781 (.ref 417)), (de P "_serialize_to" 789 (.ref 424)), (de P "__static_attributes__" 794 (.ref 425))] 8), #[]⟩
noncomputable def ob272 : Obj := ⟨.none, none, (.fields #[(.int 196 0), (.int 4 0), (.ref 416), (.int 203 0), (.int 4 0), (.ref 423)]), #[]⟩
noncomputable def ob273 : Obj := ⟨(.type "code"), none, (.fields #[(.str (ys "NumberToken") 753), (.str (ys "NumberToken") 754), (.str (ys "/claim/cut.py") 755), (.int 192 0), (.int 0 0), (.int 0 0), (.int 0 0), (.int 0 0), (.ref 406), (.bool false), (.int 181 0), (.ref 407), .none, .none, .none, .none, (.int 756 0), (.int 192 0), (.str (ys "/claim/cut.py") 757)]), #[]⟩
noncomputable def ob274 : Obj := ⟨(.type "frame"), none, .plain, #[(some (.ref 408)), (some (.ref 3)), (some (.ref 405)), none, (some (.str (ys "tinycss2.ast") 233)), none, (some (.ref 0))]⟩
noncomputable def ob275 : Obj := ⟨(.type "list"), none, (.seq #[(.str (ys "int_value") 763), (.str (ys "is_integer") 764), (.str (ys "representation") 765), (.str (ys "value") 766)] 0), #[]⟩
noncomputable def ob276 : Obj := ⟨(.type "tuple"), none, (.seq #[(.str (ys "self") 773), (.str (ys "line") 774), (.str (ys "column") 775), (.str (ys "value") 776), (.str (ys "int_value") 777), (.str (ys "representation") 778)] 0), #[]⟩
noncomputable def ob277 : Obj := ⟨.none, none, (.func (fn (mth 20 2) "__init__" "NumberToken.__init__" 0 [] .none .none .none .none none .none .none 0)), #[]⟩
noncomputable def ob278 : Obj := ⟨(.type "code"), none, (.fields #[(.str (ys "__init__") 770), (.str (ys "NumberToken.__init__") 771), (.str (ys "/claim/cut.py") 772), (.int 196 0), (.int 6 0), (.int 0 0), (.int 0 0), (.int 3 0), (.ref 411), (.bool true), (.int 181 0), (.ref 412), .none, (.ref 413), (.ref 414), (.ref 415), (.int 779 0), (.int 196 0), (.str (ys "/claim/cut.py") 780)]), #[]⟩
noncomputable def ob279 : Obj := ⟨(.type "function"), none, (.func (fn (mth 20 2) "__init__" "NumberToken.__init__" 3 [] .none .none .none (.str (ys "tinycss2.ast") 233) none (.ref 416) .none 0)), #[]⟩
noncomputable def ob280 : Obj := ⟨(.type "tuple"), none, (.seq #[(.str (ys "self") 785), (.str (ys "write") 786)] 0), #[]⟩
noncomputable def ob281 : Obj := ⟨.none, none, (.func (fn (mth 20 3) "_serialize_to" "NumberToken._serialize_to" 0 [] .none .none .none .none none .none .none 0)), #[]⟩
noncomputable def ob282 : Obj := ⟨(.type "code"), none, (.fields #[(.str (ys "_serialize_to") 782), (.str (ys "NumberToken._serialize_to") 783), (.str (ys "/claim/cut.py") 784), (.int 203 0), (.int 2 0), (.int 0 0), (.int 0 0), (.int 3 0), (.ref 418), (.bool true), (.int 181 0), (.ref 419), .none, (.ref 420), (.ref 421), (.ref 422), (.int 787 0), (.int 203 0), (.str (ys "/claim/cut.py") 788)]), #[]⟩
noncomputable def ob283 : Obj := ⟨(.type "function"), none, (.func (fn (mth 20 3) "_serialize_to" "NumberToken._serialize_to" 3 [] .none .none .none (.str (ys "tinycss2.ast") 233) none (.ref 423) .none 0)), #[]⟩
noncomputable def ob284 : Obj := ⟨(.type "tuple"), none, (.seq #[(.str (ys "int_value") 790), (.str (ys "is_integer") 791), (.str (ys "representation") 792), (.str (ys "value") 793)] 0), #[]⟩
noncomputable def ob285 : Obj := ⟨(.type "list"), none, (.seq #[(.str (ys "int_value") 763), (.str (ys "is_integer") 764), (.str (ys "representation") 765), (.str (ys "value") 766)] 1), #[]⟩
noncomputable def ob286 (P : Params) : Obj := ⟨(.type "dict"), none, (.dict #[(de P "__module__" 758 (.str (ys "tinycss2.ast") 233)), (de P "__firstlineno__" 762 (.int 192 761)), (de P "__slots__" 767 (.ref 410)), (de P "type" 769 (.str (ys "number") 768)), (de P "__init__" 781 (.ref 417)), (de P "_serialize_to" 789 (.ref 424)), (de P "__static_attributes__" 794 (.ref 425)), (de P "int_value" 796 (.ref 429)), (de P "is_integer" 798 (.ref 430)), (de P "representation" 800 (.ref 431)), (de P "value" 802 (.ref 432)), (de P "__doc__" 803 .none)] 6), #[]⟩
noncomputable def ob287 : Obj := ⟨(.type "type"), none, (.cls ⟨(ys "NumberToken"), [(.ref 87)], [(.ref 428), (.ref 87), (.type "object")], 427, (ys "NumberToken"), false, [(ys "source_column"), (ys "source_line"), (ys "int_value"), (ys "is_integer"), (ys "representation"), (ys "value")], [], false, none, false⟩), #[(some (.ref 403)), none, (some (.str (ys "NumberToken") 751)), (some (.str (ys "NumberToken") 759)), (some (.builtin "object.__new__")), (some (.bool false))]⟩
noncomputable def ob288 : Obj := ⟨(.type "member_descriptor"), none, (.fields #[(.str (ys "int_value") 795), (.ref 428), (.builtin "proto.slot"), (.builtin "proto.slot#set"), (.int 5 0)]), #[]⟩
noncomputable def ob289 : Obj := ⟨(.type "member_descriptor"), none, (.fields #[(.str (ys "is_integer") 797), (.ref 428), (.builtin "proto.slot"), (.builtin "proto.slot#set"), (.int 4 0)]), #[]⟩
noncomputable def ob290 : Obj := ⟨(.type "member_descriptor"), none, (.fields #[(.str (ys "representation") 799), (.ref 428), (.builtin "proto.slot"), (.builtin "proto.slot#set"), (.int 3 0)]), #[]⟩
noncomputable def ob291 : Obj := ⟨(.type "member_descriptor"), none, (.fields #[(.str (ys "value") 801), (.ref 428), (.builtin "proto.slot"), (.builtin "proto.slot#set"), (.int 2 0)]), #[]⟩
noncomputable def ob292 : Obj := ⟨(.type "super"), none, (.fields #[(.ref 428), (.ref 428), (.ref 428)]), #[]⟩
noncomputable def ob293 : Obj := ⟨(.type "builtin_function_or_method"), none, (.fields #[(.builtin "object.__init_subclass__"), (.ref 428)]), #[]⟩
noncomputable def ob294 (P : Params) : Obj := ⟨(.type "dict"), none, (.dict #[(de P "__module__" 813 (.str (ys "tinycss2.ast") 233)), (de P "__qualname__" 815 (.str (ys "PercentageToken") 814)), (de P "__firstlineno__" 817 (.int 205 816)), (de P "__slots__" 822 (.ref 442)), (de P "type" 824 (.str (ys "percentage") 823)), (de P "__init__" 836 (.ref 449)), (de P "_serialize_to" 844 (.ref 456)), (de P "__static_attributes__" 849 (.ref 457))] 8), #[]⟩
noncomputable def ob295 : Obj := ⟨.none, none, (.fields #[(.int 209 0), (.int 4 0), (.ref 448), (.int 216 0), (.int 4 0), (.ref 455)]), #[]⟩
noncomputable def ob296 : Obj := ⟨(.type "code"), none, (.fields #[(.str (ys "PercentageToken") 808), (.str (ys "PercentageToken") 809), (.str (ys "/claim/cut.py") 810), (.int 205 0), (.int 0 0), (.int 0 0), (.int 0 0), (.int 0 0), (.ref 438), (.bool false), (.int 181 0), (.ref 439), .none, .none, .none, .none, (.int 811 0), (.int 205 0), (.str (ys "/claim/cut.py") 812)]), #[]⟩
noncomputable def ob297 : Obj := ⟨(.type "frame"), none, .plain, #[(some (.ref 440)), (some (.ref 3)), (some (.ref 437)), none, (some (.str (ys "tinycss2.ast") 233)), none, (some (.ref 0))]⟩
noncomputable def ob298 : Obj := ⟨(.type "list"), none, (.seq #[(.str (ys "int_value") 818), (.str (ys "is_integer") 819), (.str (ys "representation") 820), (.str (ys "value") 821)] 0), #[]⟩
noncomputable def ob299 : Obj := ⟨(.type "tuple"), none, (.seq #[(.str (ys "self") 828), (.str (ys "line") 829), (.str (ys "column") 830), (.str (ys "value") 831), (.str (ys "int_value") 832), (.str (ys "representation") 833)] 0), #[]⟩
noncomputable def ob300 : Obj := ⟨.none, none, (.func (fn (mth 21 2) "__init__" "PercentageToken.__init__" 0 [] .none .none .none .none none .none .none 0)), #[]⟩
noncomputable def ob301 : Obj := ⟨(.type "code"), none, (.fields #[(.str (ys "__init__") 825), (.str (ys "PercentageToken.__init__") 826), (.str (ys "/claim/cut.py") 827), (.int 209 0), (.int 6 0), (.int 0 0), (.int 0 0), (.int 3 0), (.ref 443), (.bool true), (.int 181 0), (.ref 444), .none, (.ref 445), (.ref 446), (.ref 447), (.int 834 0), (.int 209 0), (.str (ys "/claim/cut.py") 835)]), #[]⟩
noncomputable def ob302 : Obj := ⟨(.type "function"), none, (.func (fn (mth 21 2) "__init__" "PercentageToken.__init__" 3 [] .none .none .none (.str (ys "tinycss2.ast") 233) none (.ref 448) .none 0)), #[]⟩
noncomputable def ob303 : Obj := ⟨(.type "tuple"), none, (.seq #[(.str (ys "self") 840), (.str (ys "write") 841)] 0), #[]⟩
noncomputable def ob304 : Obj := ⟨.none, none, (.func (fn (mth 21 3) "_serialize_to" "PercentageToken._serialize_to" 0 [] .none .none .none .none none .none .none 0)), #[]⟩
noncomputable def ob305 : Obj := ⟨(.type "code"), none, (.fields #[(.str (ys "_serialize_to") 837), (.str (ys "PercentageToken._serialize_to") 838), (.str (ys "/claim/cut.py") 839), (.int 216 0), (.int 2 0), (.int 0 0), (.int 0 0), (.int 3 0), (.ref 450), (.bool true), (.int 181 0), (.ref 451), .none, (.ref 452), (.ref 453), (.ref 454), (.int 842 0), (.int 216 0), (.str (ys "/claim/cut.py") 843)]), #[]⟩
noncomputable def ob306 : Obj := ⟨(.type "function"), none, (.func (fn (mth 21 3) "_serialize_to" "PercentageToken._serialize_to" 3 [] .none .none .none (.str (ys "tinycss2.ast") 233) none (.ref 455) .none 0)), #[]⟩
noncomputable def ob307 : Obj := ⟨(.type "tuple"), none, (.seq #[(.str (ys "int_value") 845), (.str (ys "is_integer") 846), (.str (ys "representation") 847), (.str (ys "value") 848)] 0), #[]⟩
noncomputable def ob308 : Obj := ⟨(.type "list"), none, (.seq #[(.str (ys "int_value") 818), (.str (ys "is_integer") 819), (.str (ys "representation") 820), (.str (ys "value") 821)] 1), #[]⟩
noncomputable def ob309 (P : Params) : Obj := ⟨(.type "dict"), none, (.dict #[(de P "__module__" 813 (.str (ys "tinycss2.ast") 233)), (de P "__firstlineno__" 817 (.int 205 816)), (de P "__slots__" 822 (.ref 442)), (de P "type" 824 (.str (ys "percentage") 823)), (de P "__init__" 836 (.ref 449)), (de P "_serialize_to" 844 (.ref 456)), (de P "__static_attributes__" 849 (.ref 457)), (de P "int_value" 851 (.ref 461)), (de P "is_integer" 853 (.ref 462)), (de P "representation" 855 (.ref 463)), (de P "value" 857 (.ref 464)), (de P "__doc__" 858 .none)] 6), #[]⟩
noncomputable def ob310 : Obj := ⟨(.type "type"), none, (.cls ⟨(ys "PercentageToken"), [(.ref 87)], [(.ref 460), (.ref 87), (.type "object")], 459, (ys "PercentageToken"), false, [(ys "source_column"), (ys "source_line"), (ys "int_value"), (ys "is_integer"), (ys "representation"), (ys "value")], [], false, none, false⟩), #[(some (.ref 435)), none, (some (.str (ys "PercentageToken") 806)), (some (.str (ys "PercentageToken") 814)), (some (.builtin "object.__new__")), (some (.bool false))]⟩
noncomputable def ob311 : Obj := ⟨(.type "member_descriptor"), none, (.fields #[(.str (ys "int_value") 850), (.ref 460), (.builtin "proto.slot"), (.builtin "proto.slot#set"), (.int 5 0)]), #[]⟩
noncomputable def ob312 : Obj := ⟨(.type "member_descriptor"), none, (.fields #[(.str (ys "is_integer") 852), (.ref 460), (.builtin "proto.slot"), (.builtin "proto.slot#set"), (.int 4 0)]), #[]⟩
noncomputable def ob313 : Obj := ⟨(.type "member_descriptor"), none, (.fields #[(.str (ys "representation") 854), (.ref 460), (.builtin "proto.slot"), (.builtin "proto.slot#set"), (.int 3 0)]), #[]⟩
noncomputable def ob314 : Obj := ⟨(.type "member_descriptor"), none, (.fields #[(.str (ys "value") 856), (.ref 460), (.builtin "proto.slot"), (.builtin "proto.slot#set"), (.int 2 0)]), #[]⟩
noncomputable def ob315 : Obj := ⟨(.type "super"), none, (.fields #[(.ref 460), (.ref 460), (.ref 460)]), #[]⟩
noncomputable def ob316 : Obj := ⟨(.type "builtin_function_or_method"), none, (.fields #[(.builtin "object.__init_subclass__"), (.ref 460)]), #[]⟩
noncomputable def ob317 (P : Params) : Obj := ⟨(.type "dict"), none, (.dict #[(de P "__module__" 868 (.str (ys "tinycss2.ast") 233)), (de P "__qualname__" 870 (.str (ys "DimensionToken") 869)), (de P "__firstlineno__" 872 (.int 219 871)), (de P "__slots__" 879 (.ref 474)), (de P "type" 881 (.str (ys "dimension") 880)), (de P "__init__" 894 (.ref 481)), (de P "_serialize_to" 903 (.ref 488)), (de P "__static_attributes__" 910 (.ref 489))] 8), #[]⟩
noncomputable def ob318 : Obj := ⟨.none, none, (.fields #[(.int 223 0), (.int 4 0), (.ref 480), (.int 235 0), (.int 4 0), (.ref 487)]), #[]⟩
noncomputable def ob319 : Obj := ⟨(.type "code"), none, (.fields #[(.str (ys "DimensionToken") 863), (.str (ys "DimensionToken") 864), (.str (ys "/claim/cut.py") 865), (.int 219 0), (.int 0 0), (.int 0 0), (.int 0 0), (.int 0 0), (.ref 470), (.bool false), (.int 181 0), (.ref 471), .none, .none, .none, .none, (.int 866 0), (.int 219 0), (.str (ys "/claim/cut.py") 867)]), #[]⟩
noncomputable def ob320 : Obj := ⟨(.type "frame"), none, .plain, #[(some (.ref 472)), (some (.ref 3)), (some (.ref 469)), none, (some (.str (ys "tinycss2.ast") 233)), none, (some (.ref 0))]⟩
noncomputable def ob321 : Obj := ⟨(.type "list"), none, (.seq #[(.str (ys "int_value") 873), (.str (ys "is_integer") 874), (.str (ys "lower_unit") 875), (.str (ys "representation") 876), (.str (ys "unit") 877), (.str (ys "value") 878)] 0), #[]⟩
noncomputable def ob322 : Obj := ⟨(.type "tuple"), none, (.seq #[(.str (ys "self") 885), (.str (ys "line") 886), (.str (ys "column") 887), (.str (ys "value") 888), (.str (ys "int_value") 889), (.str (ys "representation") 890), (.str (ys "unit") 891)] 0), #[]⟩
noncomputable def ob323 : Obj := ⟨.none, none, (.func (fn (mth 22 2) "__init__" "DimensionToken.__init__" 0 [] .none .none .none .none none .none .none 0)), #[]⟩
noncomputable def ob324 : Obj := ⟨(.type "code"), none, (.fields #[(.str (ys "__init__") 882), (.str (ys "DimensionToken.__init__") 883), (.str (ys "/claim/cut.py") 884), (.int 223 0), (.int 7 0), (.int 0 0), (.int 0 0), (.int 3 0), (.ref 475), (.bool true), (.int 181 0), (.ref 476), .none, (.ref 477), (.ref 478), (.ref 479), (.int 892 0), (.int 223 0), (.str (ys "/claim/cut.py") 893)]), #[]⟩
noncomputable def ob325 : Obj := ⟨(.type "function"), none, (.func (fn (mth 22 2) "__init__" "DimensionToken.__init__" 3 [] .none .none .none (.str (ys "tinycss2.ast") 233) none (.ref 480) .none 0)), #[]⟩
noncomputable def ob326 : Obj := ⟨(.type "tuple"), none, (.seq #[(.str (ys "self") 898), (.str (ys "write") 899), (.str (ys "unit") 900)] 0), #[]⟩
noncomputable def ob327 : Obj := ⟨.none, none, (.func (fn (mth 22 3) "_serialize_to" "DimensionToken._serialize_to" 0 [] .none .none .none .none none .none .none 0)), #[]⟩
noncomputable def ob328 : Obj := ⟨(.type "code"), none, (.fields #[(.str (ys "_serialize_to") 895), (.str (ys "DimensionToken._serialize_to") 896), (.str (ys "/claim/cut.py") 897), (.int 235 0), (.int 2 0), (.int 0 0), (.int 0 0), (.int 3 0), (.ref 482), (.bool true), (.int 181 0), (.ref 483), .none, (.ref 484), (.ref 485), (.ref 486), (.int 901 0), (.int 235 0), (.str (ys "/claim/cut.py") 902)]), #[]⟩
noncomputable def ob329 : Obj := ⟨(.type "function"), none, (.func (fn (mth 22 3) "_serialize_to" "DimensionToken._serialize_to" 3 [] .none .none .none (.str (ys "tinycss2.ast") 233) none (.ref 487) .none 0)), #[]⟩
noncomputable def ob330 : Obj := ⟨(.type "tuple"), none, (.seq #[(.str (ys "int_value") 904), (.str (ys "is_integer") 905), (.str (ys "lower_unit") 906), (.str (ys "representation") 907), (.str (ys "unit") 908), (.str (ys "value") 909)] 0), #[]⟩
noncomputable def ob331 : Obj := ⟨(.type "list"), none, (.seq #[(.str (ys "int_value") 873), (.str (ys "is_integer") 874), (.str (ys "lower_unit") 875), (.str (ys "representation") 876), (.str (ys "unit") 877), (.str (ys "value") 878)] 1), #[]⟩
noncomputable def ob332 (P : Params) : Obj := ⟨(.type "dict"), none, (.dict #[(de P "__module__" 868 (.str (ys "tinycss2.ast") 233)), (de P "__firstlineno__" 872 (.int 219 871)), (de P "__slots__" 879 (.ref 474)), (de P "type" 881 (.str (ys "dimension") 880)), (de P "__init__" 894 (.ref 481)), (de P "_serialize_to" 903 (.ref 488)), (de P "__static_attributes__" 910 (.ref 489)), (de P "int_value" 912 (.ref 493)), (de P "is_integer" 914 (.ref 494)), (de P "lower_unit" 916 (.ref 495)), (de P "representation" 918 (.ref 496)), (de P "unit" 920 (.ref 497)), (de P "value" 922 (.ref 498)), (de P "__doc__" 923 .none)] 8), #[]⟩
noncomputable def ob333 : Obj := ⟨(.type "type"), none, (.cls ⟨(ys "DimensionToken"), [(.ref 87)], [(.ref 492), (.ref 87), (.type "object")], 491, (ys "DimensionToken"), false, [(ys "source_column"), (ys "source_line"), (ys "int_value"), (ys "is_integer"), (ys "lower_unit"), (ys "representation"), (ys "unit"), (ys "value")], [], false, none, false⟩), #[(some (.ref 467)), none, (some (.str (ys "DimensionToken") 861)), (some (.str (ys "DimensionToken") 869)), (some (.builtin "object.__new__")), (some (.bool false))]⟩
noncomputable def ob334 : Obj := ⟨(.type "member_descriptor"), none, (.fields #[(.str (ys "int_value") 911), (.ref 492), (.builtin "proto.slot"), (.builtin "proto.slot#set"), (.int 7 0)]), #[]⟩
noncomputable def ob335 : Obj := ⟨(.type "member_descriptor"), none, (.fields #[(.str (ys "is_integer") 913), (.ref 492), (.builtin "proto.slot"), (.builtin "proto.slot#set"), (.int 6 0)]), #[]⟩
noncomputable def ob336 : Obj := ⟨(.type "member_descriptor"), none, (.fields #[(.str (ys "lower_unit") 915), (.ref 492), (.builtin "proto.slot"), (.builtin "proto.slot#set"), (.int 5 0)]), #[]⟩
noncomputable def ob337 : Obj := ⟨(.type "member_descriptor"), none, (.fields #[(.str (ys "representation") 917), (.ref 492), (.builtin "proto.slot"), (.builtin "proto.slot#set"), (.int 4 0)]), #[]⟩
noncomputable def ob338 : Obj := ⟨(.type "member_descriptor"), none, (.fields #[(.str (ys "unit") 919), (.ref 492), (.builtin "proto.slot"), (.builtin "proto.slot#set"), (.int 3 0)]), #[]⟩
noncomputable def ob339 : Obj := ⟨(.type "member_descriptor"), none, (.fields #[(.str (ys "value") 921), (.ref 492), (.builtin "proto.slot"), (.builtin "proto.slot#set"), (.int 2 0)]), #[]⟩
noncomputable def ob340 : Obj := ⟨(.type "super"), none, (.fields #[(.ref 492), (.ref 492), (.ref 492)]), #[]⟩
noncomputable def ob341 : Obj := ⟨(.type "builtin_function_or_method"), none, (.fields #[(.builtin "object.__init_subclass__"), (.ref 492)]), #[]⟩
noncomputable def ob342 (P : Params) : Obj := ⟨(.type "dict"), none, (.dict #[(de P "__module__" 933 (.str (ys "tinycss2.ast") 233)), (de P "__qualname__" 935 (.str (ys "ParenthesesBlock") 934)), (de P "__firstlineno__" 937 (.int 243 936)), (de P "__slots__" 939 (.ref 508)), (de P "type" 941 (.str (ys "() block") 940)), (de P "__init__" 951 (.ref 515)), (de P "_serialize_to" 959 (.ref 522)), (de P "__static_attributes__" 961 (.ref 523))] 8), #[]⟩
noncomputable def ob343 : Obj := ⟨.none, none, (.fields #[(.int 247 0), (.int 4 0), (.ref 514), (.int 251 0), (.int 4 0), (.ref 521)]), #[]⟩
noncomputable def ob344 : Obj := ⟨(.type "code"), none, (.fields #[(.str (ys "ParenthesesBlock") 928), (.str (ys "ParenthesesBlock") 929), (.str (ys "/claim/cut.py") 930), (.int 243 0), (.int 0 0), (.int 0 0), (.int 0 0), (.int 0 0), (.ref 504), (.bool false), (.int 181 0), (.ref 505), .none, .none, .none, .none, (.int 931 0), (.int 243 0), (.str (ys "/claim/cut.py") 932)]), #[]⟩
noncomputable def ob345 : Obj := ⟨(.type "frame"), none, .plain, #[(some (.ref 506)), (some (.ref 3)), (some (.ref 503)), none, (some (.str (ys "tinycss2.ast") 233)), none, (some (.ref 0))]⟩
noncomputable def ob346 : Obj := ⟨(.type "list"), none, (.seq #[(.str (ys "content") 938)] 0), #[]⟩
noncomputable def ob347 : Obj := ⟨(.type "tuple"), none, (.seq #[(.str (ys "self") 945), (.str (ys "line") 946), (.str (ys "column") 947), (.str (ys "content") 948)] 0), #[]⟩
noncomputable def ob348 : Obj := ⟨.none, none, (.func (fn (mth 23 2) "__init__" "ParenthesesBlock.__init__" 0 [] .none .none .none .none none .none .none 0)), #[]⟩
noncomputable def ob349 : Obj := ⟨(.type "code"), none, (.fields #[(.str (ys "__init__") 942), (.str (ys "ParenthesesBlock.__init__") 943), (.str (ys "/claim/cut.py") 944), (.int 247 0), (.int 4 0), (.int 0 0), (.int 0 0), (.int 3 0), (.ref 509), (.bool true), (.int 181 0), (.ref 510), .none, (.ref 511), (.ref 512), (.ref 513), (.int 949 0), (.int 247 0), (.str (ys "/claim/cut.py") 950)]), #[]⟩
noncomputable def ob350 : Obj := ⟨(.type "function"), none, (.func (fn (mth 23 2) "__init__" "ParenthesesBlock.__init__" 3 [] .none .none .none (.str (ys "tinycss2.ast") 233) none (.ref 514) .none 0)), #[]⟩
noncomputable def ob351 : Obj := ⟨(.type "tuple"), none, (.seq #[(.str (ys "self") 955), (.str (ys "write") 956)] 0), #[]⟩
noncomputable def ob352 : Obj := ⟨.none, none, (.func (fn (mth 23 3) "_serialize_to" "ParenthesesBlock._serialize_to" 0 [] .none .none .none .none none .none .none 0)), #[]⟩
noncomputable def ob353 : Obj := ⟨(.type "code"), none, (.fields #[(.str (ys "_serialize_to") 952), (.str (ys "ParenthesesBlock._serialize_to") 953), (.str (ys "/claim/cut.py") 954), (.int 251 0), (.int 2 0), (.int 0 0), (.int 0 0), (.int 3 0), (.ref 516), (.bool true), (.int 181 0), (.ref 517), .none, (.ref 518), (.ref 519), (.ref 520), (.int 957 0), (.int 251 0), (.str (ys "/claim/cut.py") 958)]), #[]⟩
noncomputable def ob354 : Obj := ⟨(.type "function"), none, (.func (fn (mth 23 3) "_serialize_to" "ParenthesesBlock._serialize_to" 3 [] .none .none .none (.str (ys "tinycss2.ast") 233) none (.ref 521) .none 0)), #[]⟩
noncomputable def ob355 : Obj := ⟨(.type "tuple"), none, (.seq #[(.str (ys "content") 960)] 0), #[]⟩
noncomputable def ob356 : Obj := ⟨(.type "list"), none, (.seq #[(.str (ys "content") 938)] 1), #[]⟩
noncomputable def ob357 (P : Params) : Obj := ⟨(.type "dict"), none, (.dict #[(de P "__module__" 933 (.str (ys "tinycss2.ast") 233)), (de P "__firstlineno__" 937 (.int 243 936)), (de P "__slots__" 939 (.ref 508)), (de P "type" 941 (.str (ys "() block") 940)), (de P "__init__" 951 (.ref 515)), (de P "_serialize_to" 959 (.ref 522)), (de P "__static_attributes__" 961 (.ref 523)), (de P "content" 963 (.ref 527)), (de P "__doc__" 964 .none)] 3), #[]⟩
noncomputable def ob358 : Obj := ⟨(.type "type"), none, (.cls ⟨(ys "ParenthesesBlock"), [(.ref 87)], [(.ref 526), (.ref 87), (.type "object")], 525, (ys "ParenthesesBlock"), false, [(ys "source_column"), (ys "source_line"), (ys "content")], [], false, none, false⟩), #[(some (.ref 501)), none, (some (.str (ys "ParenthesesBlock") 926)), (some (.str (ys "ParenthesesBlock") 934)), (some (.builtin "object.__new__")), (some (.bool false))]⟩
noncomputable def ob359 : Obj := ⟨(.type "member_descriptor"), none, (.fields #[(.str (ys "content") 962), (.ref 526), (.builtin "proto.slot"), (.builtin "proto.slot#set"), (.int 2 0)]), #[]⟩
noncomputable def ob360 : Obj := ⟨(.type "super"), none, (.fields #[(.ref 526), (.ref 526), (.ref 526)]), #[]⟩
noncomputable def ob361 : Obj := ⟨(.type "builtin_function_or_method"), none, (.fields #[(.builtin "object.__init_subclass__"), (.ref 526)]), #[]⟩
noncomputable def ob362 (P : Params) : Obj := ⟨(.type "dict"), none, (.dict #[(de P "__module__" 974 (.str (ys "tinycss2.ast") 233)), (de P "__qualname__" 976 (.str (ys "SquareBracketsBlock") 975)), (de P "__firstlineno__" 978 (.int 255 977)), (de P "__slots__" 980 (.ref 537)), (de P "type" 982 (.str (ys "[] block") 981)), (de P "__init__" 992 (.ref 544)), (de P "_serialize_to" 1000 (.ref 551)), (de P "__static_attributes__" 1002 (.ref 552))] 8), #[]⟩
noncomputable def ob363 : Obj := ⟨.none, none, (.fields #[(.int 259 0), (.int 4 0), (.ref 543), (.int 263 0), (.int 4 0), (.ref 550)]), #[]⟩
noncomputable def ob364 : Obj := ⟨(.type "code"), none, (.fields #[(.str (ys "SquareBracketsBlock") 969), (.str (ys "SquareBracketsBlock") 970), (.str (ys "/claim/cut.py") 971), (.int 255 0), (.int 0 0), (.int 0 0), (.int 0 0), (.int 0 0), (.ref 533), (.bool false), (.int 181 0), (.ref 534), .none, .none, .none, .none, (.int 972 0), (.int 255 0), (.str (ys "/claim/cut.py") 973)]), #[]⟩
noncomputable def ob365 : Obj := ⟨(.type "frame"), none, .plain, #[(some (.ref 535)), (some (.ref 3)), (some (.ref 532)), none, (some (.str (ys "tinycss2.ast") 233)), none, (some (.ref 0))]⟩
noncomputable def ob366 : Obj := ⟨(.type "list"), none, (.seq #[(.str (ys "content") 979)] 0), #[]⟩
noncomputable def ob367 : Obj := ⟨(.type "tuple"), none, (.seq #[(.str (ys "self") 986), (.str (ys "line") 987), (.str (ys "column") 988), (.str (ys "content") 989)] 0), #[]⟩
noncomputable def ob368 : Obj := ⟨.none, none, (.func (fn (mth 24 2) "__init__" "SquareBracketsBlock.__init__" 0 [] .none .none .none .none none .none .none 0)), #[]⟩
noncomputable def ob369 : Obj := ⟨(.type "code"), none, (.fields #[(.str (ys "__init__") 983), (.str (ys "SquareBracketsBlock.__init__") 984), (.str (ys "/claim/cut.py") 985), (.int 259 0), (.int 4 0), (.int 0 0), (.int 0 0), (.int 3 0), (.ref 538), (.bool true), (.int 181 0), (.ref 539), .none, (.ref 540), (.ref 541), (.ref 542), (.int 990 0), (.int 259 0), (.str (ys "/claim/cut.py") 991)]), #[]⟩
noncomputable def ob370 : Obj := ⟨(.type "function"), none, (.func (fn (mth 24 2) "__init__" "SquareBracketsBlock.__init__" 3 [] .none .none .none (.str (ys "tinycss2.ast") 233) none (.ref 543) .none 0)), #[]⟩
noncomputable def ob371 : Obj := ⟨(.type "tuple"), none, (.seq #[(.str (ys "self") 996), (.str (ys "write") 997)] 0), #[]⟩
noncomputable def ob372 : Obj := ⟨.none, none, (.func (fn (mth 24 3) "_serialize_to" "SquareBracketsBlock._serialize_to" 0 [] .none .none .none .none none .none .none 0)), #[]⟩
noncomputable def ob373 : Obj := ⟨(.type "code"), none, (.fields #[(.str (ys "_serialize_to") 993), (.str (ys "SquareBracketsBlock._serialize_to") 994), (.str (ys "/claim/cut.py") 995), (.int 263 0), (.int 2 0), (.int 0 0), (.int 0 0), (.int 3 0), (.ref 545), (.bool true), (.int 181 0), (.ref 546), .none, (.ref 547), (.ref 548), (.ref 549), (.int 998 0), (.int 263 0), (.str (ys "/claim/cut.py") 999)]), #[]⟩
noncomputable def ob374 : Obj := ⟨(.type "function"), none, (.func (fn (mth 24 3) "_serialize_to" "SquareBracketsBlock._serialize_to" 3 [] .none .none .none (.str (ys "tinycss2.ast") 233) none (.ref 550) .none 0)), #[]⟩
noncomputable def ob375 : Obj := ⟨(.type "tuple"), none, (.seq #[(.str (ys "content") 1001)] 0), #[]⟩
noncomputable def ob376 : Obj := ⟨(.type "list"), none, (.seq #[(.str (ys "content") 979)] 1), #[]⟩
noncomputable def ob377 (P : Params) : Obj := ⟨(.type "dict"), none, (.dict #[(de P "__module__" 974 (.str (ys "tinycss2.ast") 233)), (de P "__firstlineno__" 978 (.int 255 977)), (de P "__slots__" 980 (.ref 537)), (de P "type" 982 (.str (ys "[] block") 981)), (de P "__init__" 992 (.ref 544)), (de P "_serialize_to" 1000 (.ref 551)), (de P "__static_attributes__" 1002 (.ref 552)), (de P "content" 1004 (.ref 556)), (de P "__doc__" 1005 .none)] 3), #[]⟩
noncomputable def ob378 : Obj := ⟨(.type "type"), none, (.cls ⟨(ys "SquareBracketsBlock"), [(.ref 87)], [(.ref 555), (.ref 87), (.type "object")], 554, (ys "SquareBracketsBlock"), false, [(ys "source_column"), (ys "source_line"), (ys "content")], [], false, none, false⟩), #[(some (.ref 530)), none, (some (.str (ys "SquareBracketsBlock") 967)), (some (.str (ys "SquareBracketsBlock") 975)), (some (.builtin "object.__new__")), (some (.bool false))]⟩
noncomputable def ob379 : Obj := ⟨(.type "member_descriptor"), none, (.fields #[(.str (ys "content") 1003), (.ref 555), (.builtin "proto.slot"), (.builtin "proto.slot#set"), (.int 2 0)]), #[]⟩
noncomputable def ob380 : Obj := ⟨(.type "super"), none, (.fields #[(.ref 555), (.ref 555), (.ref 555)]), #[]⟩
noncomputable def ob381 : Obj := ⟨(.type "builtin_function_or_method"), none, (.fields #[(.builtin "object.__init_subclass__"), (.ref 555)]), #[]⟩
noncomputable def ob382 (P : Params) : Obj := ⟨(.type "dict"), none, (.dict #[(de P "__module__" 1015 (.str (ys "tinycss2.ast") 233)), (de P "__qualname__" 1017 (.str (ys "CurlyBracketsBlock") 1016)), (de P "__firstlineno__" 1019 (.int 267 1018)), (de P "__slots__" 1021 (.ref 566)), (de P "type" 1023 (.str (ys "{} block") 1022)), (de P "__init__" 1033 (.ref 573)), (de P "_serialize_to" 1041 (.ref 580)), (de P "__static_attributes__" 1043 (.ref 581))] 8), #[]⟩
noncomputable def ob383 : Obj := ⟨.none, none, (.fields #[(.int 271 0), (.int 4 0), (.ref 572), (.int 275 0), (.int 4 0), (.ref 579)]), #[]⟩
noncomputable def ob384 : Obj := ⟨(.type "code"), none, (.fields #[(.str (ys "CurlyBracketsBlock") 1010), (.str (ys "CurlyBracketsBlock") 1011), (.str (ys "/claim/cut.py") 1012), (.int 267 0), (.int 0 0), (.int 0 0), (.int 0 0), (.int 0 0), (.ref 562), (.bool false), (.int 181 0), (.ref 563), .none, .none, .none, .none, (.int 1013 0), (.int 267 0), (.str (ys "/claim/cut.py") 1014)]), #[]⟩
noncomputable def ob385 : Obj := ⟨(.type "frame"), none, .plain, #[(some (.ref 564)), (some (.ref 3)), (some (.ref 561)), none, (some (.str (ys "tinycss2.ast") 233)), none, (some (.ref 0))]⟩
noncomputable def ob386 : Obj := ⟨(.type "list"), none, (.seq #[(.str (ys "content") 1020)] 0), #[]⟩
noncomputable def ob387 : Obj := ⟨(.type "tuple"), none, (.seq #[(.str (ys "self") 1027), (.str (ys "line") 1028), (.str (ys "column") 1029), (.str (ys "content") 1030)] 0), #[]⟩
noncomputable def ob388 : Obj := ⟨.none, none, (.func (fn (mth 25 2) "__init__" "CurlyBracketsBlock.__init__" 0 [] .none .none .none .none none .none .none 0)), #[]⟩
noncomputable def ob389 : Obj := ⟨(.type "code"), none, (.fields #[(.str (ys "__init__") 1024), (.str (ys "CurlyBracketsBlock.__init__") 1025), (.str (ys "/claim/cut.py") 1026), (.int 271 0), (.int 4 0), (.int 0 0), (.int 0 0), (.int 3 0), (.ref 567), (.bool true), (.int 181 0), (.ref 568), .none, (.ref 569), (.ref 570), (.ref 571), (.int 1031 0), (.int 271 0), (.str (ys "/claim/cut.py") 1032)]), #[]⟩
noncomputable def ob390 : Obj := ⟨(.type "function"), none, (.func (fn (mth 25 2) "__init__" "CurlyBracketsBlock.__init__" 3 [] .none .none .none (.str (ys "tinycss2.ast") 233) none (.ref 572) .none 0)), #[]⟩
noncomputable def ob391 : Obj := ⟨(.type "tuple"), none, (.seq #[(.str (ys "self") 1037), (.str (ys "write") 1038)] 0), #[]⟩
noncomputable def ob392 : Obj := ⟨.none, none, (.func (fn (mth 25 3) "_serialize_to" "CurlyBracketsBlock._serialize_to" 0 [] .none .none .none .none none .none .none 0)), #[]⟩
noncomputable def ob393 : Obj := ⟨(.type "code"), none, (.fields #[(.str (ys "_serialize_to") 1034), (.str (ys "CurlyBracketsBlock._serialize_to") 1035), (.str (ys "/claim/cut.py") 1036), (.int 275 0), (.int 2 0), (.int 0 0), (.int 0 0), (.int 3 0), (.ref 574), (.bool true), (.int 181 0), (.ref 575), .none, (.ref 576), (.ref 577), (.ref 578), (.int 1039 0), (.int 275 0), (.str (ys "/claim/cut.py") 1040)]), #[]⟩
noncomputable def ob394 : Obj := ⟨(.type "function"), none, (.func (fn (mth 25 3) "_serialize_to" "CurlyBracketsBlock._serialize_to" 3 [] .none .none .none (.str (ys "tinycss2.ast") 233) none (.ref 579) .none 0)), #[]⟩
noncomputable def ob395 : Obj := ⟨(.type "tuple"), none, (.seq #[(.str (ys "content") 1042)] 0), #[]⟩
noncomputable def ob396 : Obj := ⟨(.type "list"), none, (.seq #[(.str (ys "content") 1020)] 1), #[]⟩
noncomputable def ob397 (P : Params) : Obj := ⟨(.type "dict"), none, (.dict #[(de P "__module__" 1015 (.str (ys "tinycss2.ast") 233)), (de P "__firstlineno__" 1019 (.int 267 1018)), (de P "__slots__" 1021 (.ref 566)), (de P "type" 1023 (.str (ys "{} block") 1022)), (de P "__init__" 1033 (.ref 573)), (de P "_serialize_to" 1041 (.ref 580)), (de P "__static_attributes__" 1043 (.ref 581)), (de P "content" 1045 (.ref 585)), (de P "__doc__" 1046 .none)] 3), #[]⟩
noncomputable def ob398 : Obj := ⟨(.type "type"), none, (.cls ⟨(ys "CurlyBracketsBlock"), [(.ref 87)], [(.ref 584), (.ref 87), (.type "object")], 583, (ys "CurlyBracketsBlock"), false, [(ys "source_column"), (ys "source_line"), (ys "content")], [], false, none, false⟩), #[(some (.ref 559)), none, (some (.str (ys "CurlyBracketsBlock") 1008)), (some (.str (ys "CurlyBracketsBlock") 1016)), (some (.builtin "object.__new__")), (some (.bool false))]⟩
noncomputable def ob399 : Obj := ⟨(.type "member_descriptor"), none, (.fields #[(.str (ys "content") 1044), (.ref 584), (.builtin "proto.slot"), (.builtin "proto.slot#set"), (.int 2 0)]), #[]⟩
noncomputable def ob400 : Obj := ⟨(.type "super"), none, (.fields #[(.ref 584), (.ref 584), (.ref 584)]), #[]⟩
noncomputable def ob401 : Obj := ⟨(.type "builtin_function_or_method"), none, (.fields #[(.builtin "object.__init_subclass__"), (.ref 584)]), #[]⟩
noncomputable def ob402 (P : Params) : Obj := ⟨(.type "dict"), none, (.dict #[(de P "__module__" 1056 (.str (ys "tinycss2.ast") 233)), (de P "__qualname__" 1058 (.str (ys "FunctionBlock") 1057)), (de P "__firstlineno__" 1060 (.int 279 1059)), (de P "__slots__" 1064 (.ref 595)), (de P "type" 1066 (.str (ys "function") 1065)), (de P "__init__" 1077 (.ref 602)), (de P "_serialize_to" 1087 (.ref 609)), (de P "__static_attributes__" 1091 (.ref 610))] 8), #[]⟩
noncomputable def ob403 : Obj := ⟨.none, none, (.fields #[(.int 283 0), (.int 4 0), (.ref 601), (.int 292 0), (.int 4 0), (.ref 608)]), #[]⟩
noncomputable def ob404 : Obj := ⟨(.type "code"), none, (.fields #[(.str (ys "FunctionBlock") 1051), (.str (ys "FunctionBlock") 1052), (.str (ys "/claim/cut.py") 1053), (.int 279 0), (.int 0 0), (.int 0 0), (.int 0 0), (.int 0 0), (.ref 591), (.bool false), (.int 181 0), (.ref 592), .none, .none, .none, .none, (.int 1054 0), (.int 279 0), (.str (ys "/claim/cut.py") 1055)]), #[]⟩
noncomputable def ob405 : Obj := ⟨(.type "frame"), none, .plain, #[(some (.ref 593)), (some (.ref 3)), (some (.ref 590)), none, (some (.str (ys "tinycss2.ast") 233)), none, (some (.ref 0))]⟩
noncomputable def ob406 : Obj := ⟨(.type "list"), none, (.seq #[(.str (ys "arguments") 1061), (.str (ys "lower_name") 1062), (.str (ys "name") 1063)] 0), #[]⟩
noncomputable def ob407 : Obj := ⟨(.type "tuple"), none, (.seq #[(.str (ys "self") 1070), (.str (ys "line") 1071), (.str (ys "column") 1072), (.str (ys "name") 1073), (.str (ys "arguments") 1074)] 0), #[]⟩
noncomputable def ob408 : Obj := ⟨.none, none, (.func (fn (mth 26 2) "__init__" "FunctionBlock.__init__" 0 [] .none .none .none .none none .none .none 0)), #[]⟩
noncomputable def ob409 : Obj := ⟨(.type "code"), none, (.fields #[(.str (ys "__init__") 1067), (.str (ys "FunctionBlock.__init__") 1068), (.str (ys "/claim/cut.py") 1069), (.int 283 0), (.int 5 0), (.int 0 0), (.int 0 0), (.int 3 0), (.ref 596), (.bool true), (.int 181 0), (.ref 597), .none, (.ref 598), (.ref 599), (.ref 600), (.int 1075 0), (.int 283 0), (.str (ys "/claim/cut.py") 1076)]), #[]⟩
noncomputable def ob410 : Obj := ⟨(.type "function"), none, (.func (fn (mth 26 2) "__init__" "FunctionBlock.__init__" 3 [] .none .none .none (.str (ys "tinycss2.ast") 233) none (.ref 601) .none 0)), #[]⟩
noncomputable def ob411 : Obj := ⟨(.type "tuple"), none, (.seq #[(.str (ys "self") 1081), (.str (ys "write") 1082), (.str (ys "function") 1083), (.str (ys "eof_in_string") 1084)] 0), #[]⟩
noncomputable def ob412 : Obj := ⟨.none, none, (.func (fn (mth 26 3) "_serialize_to" "FunctionBlock._serialize_to" 0 [] .none .none .none .none none .none .none 0)), #[]⟩
noncomputable def ob413 : Obj := ⟨(.type "code"), none, (.fields #[(.str (ys "_serialize_to") 1078), (.str (ys "FunctionBlock._serialize_to") 1079), (.str (ys "/claim/cut.py") 1080), (.int 292 0), (.int 2 0), (.int 0 0), (.int 0 0), (.int 3 0), (.ref 603), (.bool true), (.int 181 0), (.ref 604), .none, (.ref 605), (.ref 606), (.ref 607), (.int 1085 0), (.int 292 0), (.str (ys "/claim/cut.py") 1086)]), #[]⟩
noncomputable def ob414 : Obj := ⟨(.type "function"), none, (.func (fn (mth 26 3) "_serialize_to" "FunctionBlock._serialize_to" 3 [] .none .none .none (.str (ys "tinycss2.ast") 233) none (.ref 608) .none 0)), #[]⟩
noncomputable def ob415 : Obj := ⟨(.type "tuple"), none, (.seq #[(.str (ys "arguments") 1088), (.str (ys "lower_name") 1089), (.str (ys "name") 1090)] 0), #[]⟩
noncomputable def ob416 : Obj := ⟨(.type "list"), none, (.seq #[(.str (ys "arguments") 1061), (.str (ys "lower_name") 1062), (.str (ys "name") 1063)] 1), #[]⟩
noncomputable def ob417 (P : Params) : Obj := ⟨(.type "dict"), none, (.dict #[(de P "__module__" 1056 (.str (ys "tinycss2.ast") 233)), (de P "__firstlineno__" 1060 (.int 279 1059)), (de P "__slots__" 1064 (.ref 595)), (de P "type" 1066 (.str (ys "function") 1065)), (de P "__init__" 1077 (.ref 602)), (de P "_serialize_to" 1087 (.ref 609)), (de P "__static_attributes__" 1091 (.ref 610)), (de P "arguments" 1093 (.ref 614)), (de P "lower_name" 1095 (.ref 615)), (de P "name" 1097 (.ref 616)), (de P "__doc__" 1098 .none)] 5), #[]⟩
noncomputable def ob418 : Obj := ⟨(.type "type"), none, (.cls ⟨(ys "FunctionBlock"), [(.ref 87)], [(.ref 613), (.ref 87), (.type "object")], 612, (ys "FunctionBlock"), false, [(ys "source_column"), (ys "source_line"), (ys "arguments"), (ys "lower_name"), (ys "name")], [], false, none, false⟩), #[(some (.ref 588)), none, (some (.str (ys "FunctionBlock") 1049)), (some (.str (ys "FunctionBlock") 1057)), (some (.builtin "object.__new__")), (some (.bool false))]⟩
noncomputable def ob419 : Obj := ⟨(.type "member_descriptor"), none, (.fields #[(.str (ys "arguments") 1092), (.ref 613), (.builtin "proto.slot"), (.builtin "proto.slot#set"), (.int 4 0)]), #[]⟩
noncomputable def ob420 : Obj := ⟨(.type "member_descriptor"), none, (.fields #[(.str (ys "lower_name") 1094), (.ref 613), (.builtin "proto.slot"), (.builtin "proto.slot#set"), (.int 3 0)]), #[]⟩
noncomputable def ob421 : Obj := ⟨(.type "member_descriptor"), none, (.fields #[(.str (ys "name") 1096), (.ref 613), (.builtin "proto.slot"), (.builtin "proto.slot#set"), (.int 2 0)]), #[]⟩
noncomputable def ob422 : Obj := ⟨(.type "super"), none, (.fields #[(.ref 613), (.ref 613), (.ref 613)]), #[]⟩
noncomputable def ob423 : Obj := ⟨(.type "builtin_function_or_method"), none, (.fields #[(.builtin "object.__init_subclass__"), (.ref 613)]), #[]⟩
noncomputable def ob424 (P : Params) : Obj := ⟨(.type "dict"), none, (.dict #[(de P "__module__" 1108 (.str (ys "tinycss2.ast") 233)), (de P "__qualname__" 1110 (.str (ys "Declaration") 1109)), (de P "__firstlineno__" 1112 (.int 303 1111)), (de P "__slots__" 1117 (.ref 626)), (de P "type" 1119 (.str (ys "declaration") 1118)), (de P "__init__" 1132 (.ref 633)), (de P "_serialize_to" 1140 (.ref 640)), (de P "__static_attributes__" 1145 (.ref 641))] 8), #[]⟩
noncomputable def ob425 : Obj := ⟨.none, none, (.fields #[(.int 307 0), (.int 4 0), (.ref 632), (.int 314 0), (.int 4 0), (.ref 639)]), #[]⟩
noncomputable def ob426 : Obj := ⟨(.type "code"), none, (.fields #[(.str (ys "Declaration") 1103), (.str (ys "Declaration") 1104), (.str (ys "/claim/cut.py") 1105), (.int 303 0), (.int 0 0), (.int 0 0), (.int 0 0), (.int 0 0), (.ref 622), (.bool false), (.int 181 0), (.ref 623), .none, .none, .none, .none, (.int 1106 0), (.int 303 0), (.str (ys "/claim/cut.py") 1107)]), #[]⟩
noncomputable def ob427 : Obj := ⟨(.type "frame"), none, .plain, #[(some (.ref 624)), (some (.ref 3)), (some (.ref 621)), none, (some (.str (ys "tinycss2.ast") 233)), none, (some (.ref 0))]⟩
noncomputable def ob428 : Obj := ⟨(.type "list"), none, (.seq #[(.str (ys "important") 1113), (.str (ys "lower_name") 1114), (.str (ys "name") 1115), (.str (ys "value") 1116)] 0), #[]⟩
noncomputable def ob429 : Obj := ⟨(.type "tuple"), none, (.seq #[(.str (ys "self") 1123), (.str (ys "line") 1124), (.str (ys "column") 1125), (.str (ys "name") 1126), (.str (ys "lower_name") 1127), (.str (ys "value") 1128), (.str (ys "important") 1129)] 0), #[]⟩
noncomputable def ob430 : Obj := ⟨.none, none, (.func (fn (mth 27 2) "__init__" "Declaration.__init__" 0 [] .none .none .none .none none .none .none 0)), #[]⟩
noncomputable def ob431 : Obj := ⟨(.type "code"), none, (.fields #[(.str (ys "__init__") 1120), (.str (ys "Declaration.__init__") 1121), (.str (ys "/claim/cut.py") 1122), (.int 307 0), (.int 7 0), (.int 0 0), (.int 0 0), (.int 3 0), (.ref 627), (.bool true), (.int 181 0), (.ref 628), .none, (.ref 629), (.ref 630), (.ref 631), (.int 1130 0), (.int 307 0), (.str (ys "/claim/cut.py") 1131)]), #[]⟩
noncomputable def ob432 : Obj := ⟨(.type "function"), none, (.func (fn (mth 27 2) "__init__" "Declaration.__init__" 3 [] .none .none .none (.str (ys "tinycss2.ast") 233) none (.ref 632) .none 0)), #[]⟩
noncomputable def ob433 : Obj := ⟨(.type "tuple"), none, (.seq #[(.str (ys "self") 1136), (.str (ys "write") 1137)] 0), #[]⟩
noncomputable def ob434 : Obj := ⟨.none, none, (.func (fn (mth 27 3) "_serialize_to" "Declaration._serialize_to" 0 [] .none .none .none .none none .none .none 0)), #[]⟩
noncomputable def ob435 : Obj := ⟨(.type "code"), none, (.fields #[(.str (ys "_serialize_to") 1133), (.str (ys "Declaration._serialize_to") 1134), (.str (ys "/claim/cut.py") 1135), (.int 314 0), (.int 2 0), (.int 0 0), (.int 0 0), (.int 3 0), (.ref 634), (.bool true), (.int 181 0), (.ref 635), .none, (.ref 636), (.ref 637), (.ref 638), (.int 1138 0), (.int 314 0), (.str (ys "/claim/cut.py") 1139)]), #[]⟩
noncomputable def ob436 : Obj := ⟨(.type "function"), none, (.func (fn (mth 27 3) "_serialize_to" "Declaration._serialize_to" 3 [] .none .none .none (.str (ys "tinycss2.ast") 233) none (.ref 639) .none 0)), #[]⟩
noncomputable def ob437 : Obj := ⟨(.type "tuple"), none, (.seq #[(.str (ys "important") 1141), (.str (ys "lower_name") 1142), (.str (ys "name") 1143), (.str (ys "value") 1144)] 0), #[]⟩
noncomputable def ob438 : Obj := ⟨(.type "list"), none, (.seq #[(.str (ys "important") 1113), (.str (ys "lower_name") 1114), (.str (ys "name") 1115), (.str (ys "value") 1116)] 1), #[]⟩
noncomputable def ob439 (P : Params) : Obj := ⟨(.type "dict"), none, (.dict #[(de P "__module__" 1108 (.str (ys "tinycss2.ast") 233)), (de P "__firstlineno__" 1112 (.int 303 1111)), (de P "__slots__" 1117 (.ref 626)), (de P "type" 1119 (.str (ys "declaration") 1118)), (de P "__init__" 1132 (.ref 633)), (de P "_serialize_to" 1140 (.ref 640)), (de P "__static_attributes__" 1145 (.ref 641)), (de P "important" 1147 (.ref 645)), (de P "lower_name" 1149 (.ref 646)), (de P "name" 1151 (.ref 647)), (de P "value" 1153 (.ref 648)), (de P "__doc__" 1154 .none)] 6), #[]⟩
noncomputable def ob440 : Obj := ⟨(.type "type"), none, (.cls ⟨(ys "Declaration"), [(.ref 87)], [(.ref 644), (.ref 87), (.type "object")], 643, (ys "Declaration"), false, [(ys "source_column"), (ys "source_line"), (ys "important"), (ys "lower_name"), (ys "name"), (ys "value")], [], false, none, false⟩), #[(some (.ref 619)), none, (some (.str (ys "Declaration") 1101)), (some (.str (ys "Declaration") 1109)), (some (.builtin "object.__new__")), (some (.bool false))]⟩
noncomputable def ob441 : Obj := ⟨(.type "member_descriptor"), none, (.fields #[(.str (ys "important") 1146), (.ref 644), (.builtin "proto.slot"), (.builtin "proto.slot#set"), (.int 5 0)]), #[]⟩
noncomputable def ob442 : Obj := ⟨(.type "member_descriptor"), none, (.fields #[(.str (ys "lower_name") 1148), (.ref 644), (.builtin "proto.slot"), (.builtin "proto.slot#set"), (.int 4 0)]), #[]⟩
noncomputable def ob443 : Obj := ⟨(.type "member_descriptor"), none, (.fields #[(.str (ys "name") 1150), (.ref 644), (.builtin "proto.slot"), (.builtin "proto.slot#set"), (.int 3 0)]), #[]⟩
noncomputable def ob444 : Obj := ⟨(.type "member_descriptor"), none, (.fields #[(.str (ys "value") 1152), (.ref 644), (.builtin "proto.slot"), (.builtin "proto.slot#set"), (.int 2 0)]), #[]⟩
noncomputable def ob445 : Obj := ⟨(.type "super"), none, (.fields #[(.ref 644), (.ref 644), (.ref 644)]), #[]⟩
noncomputable def ob446 : Obj := ⟨(.type "builtin_function_or_method"), none, (.fields #[(.builtin "object.__init_subclass__"), (.ref 644)]), #[]⟩
noncomputable def ob447 (P : Params) : Obj := ⟨(.type "dict"), none, (.dict #[(de P "__module__" 1164 (.str (ys "tinycss2.ast") 233)), (de P "__qualname__" 1166 (.str (ys "QualifiedRule") 1165)), (de P "__firstlineno__" 1168 (.int 320 1167)), (de P "__slots__" 1171 (.ref 658)), (de P "type" 1173 (.str (ys "qualified-rule") 1172)), (de P "__init__" 1184 (.ref 665)), (de P "_serialize_to" 1192 (.ref 672)), (de P "__static_attributes__" 1195 (.ref 673))] 8), #[]⟩
noncomputable def ob448 : Obj := ⟨.none, none, (.fields #[(.int 324 0), (.int 4 0), (.ref 664), (.int 329 0), (.int 4 0), (.ref 671)]), #[]⟩
noncomputable def ob449 : Obj := ⟨(.type "code"), none, (.fields #[(.str (ys "QualifiedRule") 1159), (.str (ys "QualifiedRule") 1160), (.str (ys "/claim/cut.py") 1161), (.int 320 0), (.int 0 0), (.int 0 0), (.int 0 0), (.int 0 0), (.ref 654), (.bool false), (.int 181 0), (.ref 655), .none, .none, .none, .none, (.int 1162 0), (.int 320 0), (.str (ys "/claim/cut.py") 1163)]), #[]⟩
noncomputable def ob450 : Obj := ⟨(.type "frame"), none, .plain, #[(some (.ref 656)), (some (.ref 3)), (some (.ref 653)), none, (some (.str (ys "tinycss2.ast") 233)), none, (some (.ref 0))]⟩
noncomputable def ob451 : Obj := ⟨(.type "list"), none, (.seq #[(.str (ys "content") 1169), (.str (ys "prelude") 1170)] 0), #[]⟩
noncomputable def ob452 : Obj := ⟨(.type "tuple"), none, (.seq #[(.str (ys "self") 1177), (.str (ys "line") 1178), (.str (ys "column") 1179), (.str (ys "prelude") 1180), (.str (ys "content") 1181)] 0), #[]⟩
noncomputable def ob453 : Obj := ⟨.none, none, (.func (fn (mth 28 2) "__init__" "QualifiedRule.__init__" 0 [] .none .none .none .none none .none .none 0)), #[]⟩
noncomputable def ob454 : Obj := ⟨(.type "code"), none, (.fields #[(.str (ys "__init__") 1174), (.str (ys "QualifiedRule.__init__") 1175), (.str (ys "/claim/cut.py") 1176), (.int 324 0), (.int 5 0), (.int 0 0), (.int 0 0), (.int 3 0), (.ref 659), (.bool true), (.int 181 0), (.ref 660), .none, (.ref 661), (.ref 662), (.ref 663), (.int 1182 0), (.int 324 0), (.str (ys "/claim/cut.py") 1183)]), #[]⟩
noncomputable def ob455 : Obj := ⟨(.type "function"), none, (.func (fn (mth 28 2) "__init__" "QualifiedRule.__init__" 3 [] .none .none .none (.str (ys "tinycss2.ast") 233) none (.ref 664) .none 0)), #[]⟩
noncomputable def ob456 : Obj := ⟨(.type "tuple"), none, (.seq #[(.str (ys "self") 1188), (.str (ys "write") 1189)] 0), #[]⟩
noncomputable def ob457 : Obj := ⟨.none, none, (.func (fn (mth 28 3) "_serialize_to" "QualifiedRule._serialize_to" 0 [] .none .none .none .none none .none .none 0)), #[]⟩
noncomputable def ob458 : Obj := ⟨(.type "code"), none, (.fields #[(.str (ys "_serialize_to") 1185), (.str (ys "QualifiedRule._serialize_to") 1186), (.str (ys "/claim/cut.py") 1187), (.int 329 0), (.int 2 0), (.int 0 0), (.int 0 0), (.int 3 0), (.ref 666), (.bool true), (.int 181 0), (.ref 667), .none, (.ref 668), (.ref 669), (.ref 670), (.int 1190 0), (.int 329 0), (.str (ys "/claim/cut.py") 1191)]), #[]⟩
noncomputable def ob459 : Obj := ⟨(.type "function"), none, (.func (fn (mth 28 3) "_serialize_to" "QualifiedRule._serialize_to" 3 [] .none .none .none (.str (ys "tinycss2.ast") 233) none (.ref 671) .none 0)), #[]⟩
noncomputable def ob460 : Obj := ⟨(.type "tuple"), none, (.seq #[(.str (ys "content") 1193), (.str (ys "prelude") 1194)] 0), #[]⟩
noncomputable def ob461 : Obj := ⟨(.type "list"), none, (.seq #[(.str (ys "content") 1169), (.str (ys "prelude") 1170)] 1), #[]⟩
noncomputable def ob462 (P : Params) : Obj := ⟨(.type "dict"), none, (.dict #[(de P "__module__" 1164 (.str (ys "tinycss2.ast") 233)), (de P "__firstlineno__" 1168 (.int 320 1167)), (de P "__slots__" 1171 (.ref 658)), (de P "type" 1173 (.str (ys "qualified-rule") 1172)), (de P "__init__" 1184 (.ref 665)), (de P "_serialize_to" 1192 (.ref 672)), (de P "__static_attributes__" 1195 (.ref 673)), (de P "content" 1197 (.ref 677)), (de P "prelude" 1199 (.ref 678)), (de P "__doc__" 1200 .none)] 4), #[]⟩
noncomputable def ob463 : Obj := ⟨(.type "type"), none, (.cls ⟨(ys "QualifiedRule"), [(.ref 87)], [(.ref 676), (.ref 87), (.type "object")], 675, (ys "QualifiedRule"), false, [(ys "source_column"), (ys "source_line"), (ys "content"), (ys "prelude")], [], false, none, false⟩), #[(some (.ref 651)), none, (some (.str (ys "QualifiedRule") 1157)), (some (.str (ys "QualifiedRule") 1165)), (some (.builtin "object.__new__")), (some (.bool false))]⟩
noncomputable def ob464 : Obj := ⟨(.type "member_descriptor"), none, (.fields #[(.str (ys "content") 1196), (.ref 676), (.builtin "proto.slot"), (.builtin "proto.slot#set"), (.int 3 0)]), #[]⟩
noncomputable def ob465 : Obj := ⟨(.type "member_descriptor"), none, (.fields #[(.str (ys "prelude") 1198), (.ref 676), (.builtin "proto.slot"), (.builtin "proto.slot#set"), (.int 2 0)]), #[]⟩
noncomputable def ob466 : Obj := ⟨(.type "super"), none, (.fields #[(.ref 676), (.ref 676), (.ref 676)]), #[]⟩
noncomputable def ob467 : Obj := ⟨(.type "builtin_function_or_method"), none, (.fields #[(.builtin "object.__init_subclass__"), (.ref 676)]), #[]⟩
noncomputable def ob468 (P : Params) : Obj := ⟨(.type "dict"), none, (.dict #[(de P "__module__" 1210 (.str (ys "tinycss2.ast") 233)), (de P "__qualname__" 1212 (.str (ys "AtRule") 1211)), (de P "__firstlineno__" 1214 (.int 334 1213)), (de P "__slots__" 1219 (.ref 688)), (de P "type" 1221 (.str (ys "at-rule") 1220)), (de P "__init__" 1234 (.ref 695)), (de P "_serialize_to" 1242 (.ref 702)), (de P "__static_attributes__" 1247 (.ref 703))] 8), #[]⟩
noncomputable def ob469 : Obj := ⟨.none, none, (.fields #[(.int 338 0), (.int 4 0), (.ref 694), (.int 345 0), (.int 4 0), (.ref 701)]), #[]⟩
noncomputable def ob470 : Obj := ⟨(.type "code"), none, (.fields #[(.str (ys "AtRule") 1205), (.str (ys "AtRule") 1206), (.str (ys "/claim/cut.py") 1207), (.int 334 0), (.int 0 0), (.int 0 0), (.int 0 0), (.int 0 0), (.ref 684), (.bool false), (.int 181 0), (.ref 685), .none, .none, .none, .none, (.int 1208 0), (.int 334 0), (.str (ys "/claim/cut.py") 1209)]), #[]⟩
noncomputable def ob471 : Obj := ⟨(.type "frame"), none, .plain, #[(some (.ref 686)), (some (.ref 3)), (some (.ref 683)), none, (some (.str (ys "tinycss2.ast") 233)), none, (some (.ref 0))]⟩
noncomputable def ob472 : Obj := ⟨(.type "list"), none, (.seq #[(.str (ys "at_keyword") 1215), (.str (ys "content") 1216), (.str (ys "lower_at_keyword") 1217), (.str (ys "prelude") 1218)] 0), #[]⟩
noncomputable def ob473 : Obj := ⟨(.type "tuple"), none, (.seq #[(.str (ys "self") 1225), (.str (ys "line") 1226), (.str (ys "column") 1227), (.str (ys "at_keyword") 1228), (.str (ys "lower_at_keyword") 1229), (.str (ys "prelude") 1230), (.str (ys "content") 1231)] 0), #[]⟩
noncomputable def ob474 : Obj := ⟨.none, none, (.func (fn (mth 29 2) "__init__" "AtRule.__init__" 0 [] .none .none .none .none none .none .none 0)), #[]⟩
noncomputable def ob475 : Obj := ⟨(.type "code"), none, (.fields #[(.str (ys "__init__") 1222), (.str (ys "AtRule.__init__") 1223), (.str (ys "/claim/cut.py") 1224), (.int 338 0), (.int 7 0), (.int 0 0), (.int 0 0), (.int 3 0), (.ref 689), (.bool true), (.int 181 0), (.ref 690), .none, (.ref 691), (.ref 692), (.ref 693), (.int 1232 0), (.int 338 0), (.str (ys "/claim/cut.py") 1233)]), #[]⟩
noncomputable def ob476 : Obj := ⟨(.type "function"), none, (.func (fn (mth 29 2) "__init__" "AtRule.__init__" 3 [] .none .none .none (.str (ys "tinycss2.ast") 233) none (.ref 694) .none 0)), #[]⟩
noncomputable def ob477 : Obj := ⟨(.type "tuple"), none, (.seq #[(.str (ys "self") 1238), (.str (ys "write") 1239)] 0), #[]⟩
noncomputable def ob478 : Obj := ⟨.none, none, (.func (fn (mth 29 3) "_serialize_to" "AtRule._serialize_to" 0 [] .none .none .none .none none .none .none 0)), #[]⟩
noncomputable def ob479 : Obj := ⟨(.type "code"), none, (.fields #[(.str (ys "_serialize_to") 1235), (.str (ys "AtRule._serialize_to") 1236), (.str (ys "/claim/cut.py") 1237), (.int 345 0), (.int 2 0), (.int 0 0), (.int 0 0), (.int 3 0), (.ref 696), (.bool true), (.int 181 0), (.ref 697), .none, (.ref 698), (.ref 699), (.ref 700), (.int 1240 0), (.int 345 0), (.str (ys "/claim/cut.py") 1241)]), #[]⟩
noncomputable def ob480 : Obj := ⟨(.type "function"), none, (.func (fn (mth 29 3) "_serialize_to" "AtRule._serialize_to" 3 [] .none .none .none (.str (ys "tinycss2.ast") 233) none (.ref 701) .none 0)), #[]⟩
noncomputable def ob481 : Obj := ⟨(.type "tuple"), none, (.seq #[(.str (ys "at_keyword") 1243), (.str (ys "content") 1244), (.str (ys "lower_at_keyword") 1245), (.str (ys "prelude") 1246)] 0), #[]⟩
noncomputable def ob482 : Obj := ⟨(.type "list"), none, (.seq #[(.str (ys "at_keyword") 1215), (.str (ys "content") 1216), (.str (ys "lower_at_keyword") 1217), (.str (ys "prelude") 1218)] 1), #[]⟩
noncomputable def ob483 (P : Params) : Obj := ⟨(.type "dict"), none, (.dict #[(de P "__module__" 1210 (.str (ys "tinycss2.ast") 233)), (de P "__firstlineno__" 1214 (.int 334 1213)), (de P "__slots__" 1219 (.ref 688)), (de P "type" 1221 (.str (ys "at-rule") 1220)), (de P "__init__" 1234 (.ref 695)), (de P "_serialize_to" 1242 (.ref 702)), (de P "__static_attributes__" 1247 (.ref 703)), (de P "at_keyword" 1249 (.ref 707)), (de P "content" 1251 (.ref 708)), (de P "lower_at_keyword" 1253 (.ref 709)), (de P "prelude" 1255 (.ref 710)), (de P "__doc__" 1256 .none)] 6), #[]⟩
noncomputable def ob484 : Obj := ⟨(.type "type"), none, (.cls ⟨(ys "AtRule"), [(.ref 87)], [(.ref 706), (.ref 87), (.type "object")], 705, (ys "AtRule"), false, [(ys "source_column"), (ys "source_line"), (ys "at_keyword"), (ys "content"), (ys "lower_at_keyword"), (ys "prelude")], [], false, none, false⟩), #[(some (.ref 681)), none, (some (.str (ys "AtRule") 1203)), (some (.str (ys "AtRule") 1211)), (some (.builtin "object.__new__")), (some (.bool false))]⟩
noncomputable def ob485 : Obj := ⟨(.type "member_descriptor"), none, (.fields #[(.str (ys "at_keyword") 1248), (.ref 706), (.builtin "proto.slot"), (.builtin "proto.slot#set"), (.int 5 0)]), #[]⟩
noncomputable def ob486 : Obj := ⟨(.type "member_descriptor"), none, (.fields #[(.str (ys "content") 1250), (.ref 706), (.builtin "proto.slot"), (.builtin "proto.slot#set"), (.int 4 0)]), #[]⟩
noncomputable def ob487 : Obj := ⟨(.type "member_descriptor"), none, (.fields #[(.str (ys "lower_at_keyword") 1252), (.ref 706), (.builtin "proto.slot"), (.builtin "proto.slot#set"), (.int 3 0)]), #[]⟩
noncomputable def ob488 : Obj := ⟨(.type "member_descriptor"), none, (.fields #[(.str (ys "prelude") 1254), (.ref 706), (.builtin "proto.slot"), (.builtin "proto.slot#set"), (.int 2 0)]), #[]⟩
noncomputable def ob489 : Obj := ⟨(.type "super"), none, (.fields #[(.ref 706), (.ref 706), (.ref 706)]), #[]⟩
noncomputable def ob490 : Obj := ⟨(.type "builtin_function_or_method"), none, (.fields #[(.builtin "object.__init_subclass__"), (.ref 706)]), #[]⟩
noncomputable def ob491 (P : Params) : Obj := ⟨(.type "dict"), none, (.dict #[(de P "ident" 1261 (.int 0 1262)), (de P "function" 1263 (.int 1 1264)), (de P "url" 1265 (.int 2 1266)), (de P "number" 1267 (.int 3 1268)), (de P "percentage" 1269 (.int 4 1270)), (de P "dimension" 1271 (.int 5 1272)), (de P "unicode-range" 1273 (.int 6 1274)), (de P "-" 1275 (.int 7 1276)), (de P "-->" 1277 (.int 8 1278)), (de P "() block" 1279 (.int 9 1280)), (de P "?" 1281 (.int 10 1282)), (de P "=" 1283 (.int 11 1284)), (de P "|" 1285 (.int 12 1286)), (de P "*" 1287 (.int 13 1288))] 14), #[]⟩
noncomputable def ob492 : Obj := ⟨.none, none, (.func (fn (stm 32) "_law_TABLE" "_law_TABLE" 0 [] .none .none .none .none none .none .none 0)), #[]⟩
noncomputable def ob493 : Obj := ⟨(.type "code"), none, (.fields #[(.str (ys "_law_TABLE") 1304), (.str (ys "_law_TABLE") 1305), (.str (ys "/claim/cut.py") 1306), (.int 357 0), (.int 0 0), (.int 0 0), (.int 0 0), (.int 3 0), (.ref 714), (.bool true), (.int 181 0), (.ref 715), .none, (.ref 716), (.ref 717), (.ref 718), (.int 1307 0), (.int 357 0), (.str (ys "/claim/cut.py") 1308)]), #[]⟩
noncomputable def ob494 : Obj := ⟨(.type "function"), none, (.func (fn (stm 32) "_law_TABLE" "_law_TABLE" 3 [] .none .none .none (.str (ys "law_te0059_01") 1259) none (.ref 719) .none 0)), #[]⟩
noncomputable def ob495 : Obj := ⟨(.type "list"), none, (.seq #[(.str (ys "a") 1310), (.str (ys "-") 1311), (.str (ys "7") 1312), (.str (ys "Z") 1313), (.str (ys "_") 1314), (.str (ys "é") 1315), (.str (ys " ") 1316), (.str (ys "\n") 1317), (.str (ys "\"") 1318), (.str (ys "\x0d") 1319), (.str (ys "\x0c") 1320), (.str (ys ".") 1321), (.str (ys "\\") 1322), (.str (ys "0") 1323), (.str (ys "(") 1324), (.str (ys "\x01") 1325)] 0), #[]⟩
noncomputable def ob496 : Obj := ⟨.none, none, (.func (fn (stm 34) "_law_NUMBERS" "_law_NUMBERS" 0 [] .none .none .none .none none .none .none 0)), #[]⟩
noncomputable def ob497 : Obj := ⟨(.type "code"), none, (.fields #[(.str (ys "_law_NUMBERS") 1327), (.str (ys "_law_NUMBERS") 1328), (.str (ys "/claim/cut.py") 1329), (.int 360 0), (.int 0 0), (.int 0 0), (.int 0 0), (.int 3 0), (.ref 722), (.bool true), (.int 181 0), (.ref 723), .none, (.ref 724), (.ref 725), (.ref 726), (.int 1330 0), (.int 360 0), (.str (ys "/claim/cut.py") 1331)]), #[]⟩
noncomputable def ob498 : Obj := ⟨(.type "function"), none, (.func (fn (stm 34) "_law_NUMBERS" "_law_NUMBERS" 3 [] .none .none .none (.str (ys "law_te0059_01") 1259) none (.ref 727) .none 0)), #[]⟩
noncomputable def ob499 : Obj := ⟨.none, none, (.func (fn (stm 35) "_law_UNITS" "_law_UNITS" 0 [] .none .none .none .none none .none .none 0)), #[]⟩
noncomputable def ob500 : Obj := ⟨(.type "code"), none, (.fields #[(.str (ys "_law_UNITS") 1333), (.str (ys "_law_UNITS") 1334), (.str (ys "/claim/cut.py") 1335), (.int 362 0), (.int 0 0), (.int 0 0), (.int 0 0), (.int 3 0), (.ref 729), (.bool true), (.int 181 0), (.ref 730), .none, (.ref 731), (.ref 732), (.ref 733), (.int 1336 0), (.int 362 0), (.str (ys "/claim/cut.py") 1337)]), #[]⟩
noncomputable def ob501 : Obj := ⟨(.type "function"), none, (.func (fn (stm 35) "_law_UNITS" "_law_UNITS" 3 [] .none .none .none (.str (ys "law_te0059_01") 1259) none (.ref 734) .none 0)), #[]⟩
noncomputable def ob502 : Obj := ⟨.none, none, (.func (fn (stm 36) "_law_LITERALS" "_law_LITERALS" 0 [] .none .none .none .none none .none .none 0)), #[]⟩
noncomputable def ob503 : Obj := ⟨(.type "code"), none, (.fields #[(.str (ys "_law_LITERALS") 1339), (.str (ys "_law_LITERALS") 1340), (.str (ys "/claim/cut.py") 1341), (.int 364 0), (.int 0 0), (.int 0 0), (.int 0 0), (.int 3 0), (.ref 736), (.bool true), (.int 181 0), (.ref 737), .none, (.ref 738), (.ref 739), (.ref 740), (.int 1342 0), (.int 364 0), (.str (ys "/claim/cut.py") 1343)]), #[]⟩
noncomputable def ob504 : Obj := ⟨(.type "function"), none, (.func (fn (stm 36) "_law_LITERALS" "_law_LITERALS" 3 [] .none .none .none (.str (ys "law_te0059_01") 1259) none (.ref 741) .none 0)), #[]⟩
noncomputable def ob505 : Obj := ⟨.none, none, (.func (fn (stm 37) "_law_STRINGS" "_law_STRINGS" 0 [] .none .none .none .none none .none .none 0)), #[]⟩
noncomputable def ob506 : Obj := ⟨(.type "code"), none, (.fields #[(.str (ys "_law_STRINGS") 1345), (.str (ys "_law_STRINGS") 1346), (.str (ys "/claim/cut.py") 1347), (.int 366 0), (.int 0 0), (.int 0 0), (.int 0 0), (.int 3 0), (.ref 743), (.bool true), (.int 181 0), (.ref 744), .none, (.ref 745), (.ref 746), (.ref 747), (.int 1348 0), (.int 366 0), (.str (ys "/claim/cut.py") 1349)]), #[]⟩
noncomputable def ob507 : Obj := ⟨(.type "function"), none, (.func (fn (stm 37) "_law_STRINGS" "_law_STRINGS" 3 [] .none .none .none (.str (ys "law_te0059_01") 1259) none (.ref 748) .none 0)), #[]⟩
noncomputable def ob508 : Obj := ⟨.none, none, (.func (fn (stm 39) "_law_CALM" "_law_CALM" 0 [] .none .none .none .none none .none .none 0)), #[]⟩
noncomputable def ob509 : Obj := ⟨(.type "code"), none, (.fields #[(.str (ys "_law_CALM") 1353), (.str (ys "_law_CALM") 1354), (.str (ys "/claim/cut.py") 1355), (.int 369 0), (.int 0 0), (.int 0 0), (.int 0 0), (.int 3 0), (.ref 750), (.bool true), (.int 181 0), (.ref 751), .none, (.ref 752), (.ref 753), (.ref 754), (.int 1356 0), (.int 369 0), (.str (ys "/claim/cut.py") 1357)]), #[]⟩
noncomputable def ob510 : Obj := ⟨(.type "function"), none, (.func (fn (stm 39) "_law_CALM" "_law_CALM" 3 [] .none .none .none (.str (ys "law_te0059_01") 1259) none (.ref 755) .none 0)), #[]⟩
noncomputable def ob511 : Obj := ⟨(.type "tuple"), none, (.seq #[(.str (ys "n") 1362), (.str (ys "name") 1363), (.str (ys "_") 1364)] 0), #[]⟩
noncomputable def ob512 : Obj := ⟨.none, none, (.func (fn (stm 40) "_law_name" "_law_name" 0 [] .none .none .none .none none .none .none 0)), #[]⟩
noncomputable def ob513 : Obj := ⟨(.type "code"), none, (.fields #[(.str (ys "_law_name") 1359), (.str (ys "_law_name") 1360), (.str (ys "/claim/cut.py") 1361), (.int 371 0), (.int 1 0), (.int 0 0), (.int 0 0), (.int 3 0), (.ref 757), (.bool true), (.int 181 0), (.ref 758), .none, (.ref 759), (.ref 760), (.ref 761), (.int 1365 0), (.int 371 0), (.str (ys "/claim/cut.py") 1366)]), #[]⟩
noncomputable def ob514 : Obj := ⟨(.type "function"), none, (.func (fn (stm 40) "_law_name" "_law_name" 3 [] .none .none .none (.str (ys "law_te0059_01") 1259) none (.ref 762) .none 0)), #[]⟩
noncomputable def ob515 : Obj := ⟨(.type "tuple"), none, (.seq #[(.str (ys "sign") 1371)] 0), #[]⟩
noncomputable def ob516 : Obj := ⟨.none, none, (.func (fn (stm 41) "_law_sign" "_law_sign" 0 [] .none .none .none .none none .none .none 0)), #[]⟩
noncomputable def ob517 : Obj := ⟨(.type "code"), none, (.fields #[(.str (ys "_law_sign") 1368), (.str (ys "_law_sign") 1369), (.str (ys "/claim/cut.py") 1370), (.int 377 0), (.int 1 0), (.int 0 0), (.int 0 0), (.int 3 0), (.ref 764), (.bool true), (.int 181 0), (.ref 765), .none, (.ref 766), (.ref 767), (.ref 768), (.int 1372 0), (.int 377 0), (.str (ys "/claim/cut.py") 1373)]), #[]⟩
noncomputable def ob518 : Obj := ⟨(.type "function"), none, (.func (fn (stm 41) "_law_sign" "_law_sign" 3 [] .none .none .none (.str (ys "law_te0059_01") 1259) none (.ref 769) .none 0)), #[]⟩
noncomputable def ob519 : Obj := ⟨(.type "tuple"), none, (.seq #[(.str (ys "name") 1378), (.str (ys "text") 1379), (.str (ys "place") 1380), (.str (ys "sign") 1381)] 0), #[]⟩
noncomputable def ob520 : Obj := ⟨.none, none, (.func (fn (stm 42) "_law_spell" "_law_spell" 0 [] .none .none .none .none none .none .none 0)), #[]⟩
noncomputable def ob521 : Obj := ⟨(.type "code"), none, (.fields #[(.str (ys "_law_spell") 1375), (.str (ys "_law_spell") 1376), (.str (ys "/claim/cut.py") 1377), (.int 387 0), (.int 1 0), (.int 0 0), (.int 0 0), (.int 3 0), (.ref 771), (.bool true), (.int 181 0), (.ref 772), .none, (.ref 773), (.ref 774), (.ref 775), (.int 1382 0), (.int 387 0), (.str (ys "/claim/cut.py") 1383)]), #[]⟩
noncomputable def ob522 : Obj := ⟨(.type "function"), none, (.func (fn (stm 42) "_law_spell" "_law_spell" 3 [] .none .none .none (.str (ys "law_te0059_01") 1259) none (.ref 776) .none 0)), #[]⟩
noncomputable def ob523 : Obj := ⟨.none, none, (.func (fn (stm 43) "_law_unit" "_law_unit" 0 [] .none .none .none .none none .none .none 0)), #[]⟩
noncomputable def ob524 : Obj := ⟨(.type "code"), none, (.fields #[(.str (ys "_law_unit") 1385), (.str (ys "_law_unit") 1386), (.str (ys "/claim/cut.py") 1387), (.int 397 0), (.int 1 0), (.int 0 0), (.int 0 0), (.int 3 0), (.ref 778), (.bool true), (.int 181 0), (.ref 779), .none, .none, .none, (.ref 780), (.int 1388 0), (.int 397 0), (.str (ys "/claim/cut.py") 1389)]), #[]⟩
noncomputable def ob525 : Obj := ⟨(.type "function"), none, (.func (fn (stm 43) "_law_unit" "_law_unit" 3 [] .none .none .none (.str (ys "law_te0059_01") 1259) none (.ref 781) .none 0)), #[]⟩
noncomputable def ob526 : Obj := ⟨(.type "tuple"), none, (.seq #[(.str (ys "n") 1394), (.str (ys "text") 1395)] 0), #[]⟩
noncomputable def ob527 : Obj := ⟨.none, none, (.func (fn (stm 44) "_law_base" "_law_base" 0 [] .none .none .none .none none .none .none 0)), #[]⟩
noncomputable def ob528 : Obj := ⟨(.type "code"), none, (.fields #[(.str (ys "_law_base") 1391), (.str (ys "_law_base") 1392), (.str (ys "/claim/cut.py") 1393), (.int 401 0), (.int 1 0), (.int 0 0), (.int 0 0), (.int 3 0), (.ref 783), (.bool true), (.int 181 0), (.ref 784), .none, (.ref 785), (.ref 786), (.ref 787), (.int 1396 0), (.int 401 0), (.str (ys "/claim/cut.py") 1397)]), #[]⟩
noncomputable def ob529 : Obj := ⟨(.type "function"), none, (.func (fn (stm 44) "_law_base" "_law_base" 3 [] .none .none .none (.str (ys "law_te0059_01") 1259) none (.ref 788) .none 0)), #[]⟩
noncomputable def ob530 : Obj := ⟨(.type "tuple"), none, (.seq #[(.str (ys "left") 1402), (.str (ys "kind") 1403), (.str (ys "piece") 1404)] 0), #[]⟩
noncomputable def ob531 : Obj := ⟨.none, none, (.func (fn (stm 45) "_law_mark" "_law_mark" 0 [] .none .none .none .none none .none .none 0)), #[]⟩
noncomputable def ob532 : Obj := ⟨(.type "code"), none, (.fields #[(.str (ys "_law_mark") 1399), (.str (ys "_law_mark") 1400), (.str (ys "/claim/cut.py") 1401), (.int 407 0), (.int 3 0), (.int 0 0), (.int 0 0), (.int 3 0), (.ref 790), (.bool true), (.int 181 0), (.ref 791), .none, (.ref 792), (.ref 793), (.ref 794), (.int 1405 0), (.int 407 0), (.str (ys "/claim/cut.py") 1406)]), #[]⟩
noncomputable def ob533 : Obj := ⟨(.type "function"), none, (.func (fn (stm 45) "_law_mark" "_law_mark" 3 [] .none .none .none (.str (ys "law_te0059_01") 1259) none (.ref 795) .none 0)), #[]⟩
noncomputable def ob534 : Obj := ⟨(.type "tuple"), none, (.seq #[(.str (ys "told") 1411), (.str (ys "text") 1412), (.str (ys "last") 1413), (.str (ys "kind") 1414), (.str (ys "piece") 1415)] 0), #[]⟩
noncomputable def ob535 : Obj := ⟨.none, none, (.func (fn (stm 46) "_law_join" "_law_join" 0 [] .none .none .none .none none .none .none 0)), #[]⟩
noncomputable def ob536 : Obj := ⟨(.type "code"), none, (.fields #[(.str (ys "_law_join") 1408), (.str (ys "_law_join") 1409), (.str (ys "/claim/cut.py") 1410), (.int 413 0), (.int 1 0), (.int 0 0), (.int 0 0), (.int 3 0), (.ref 797), (.bool true), (.int 181 0), (.ref 798), .none, (.ref 799), (.ref 800), (.ref 801), (.int 1416 0), (.int 413 0), (.str (ys "/claim/cut.py") 1417)]), #[]⟩
noncomputable def ob537 : Obj := ⟨(.type "function"), none, (.func (fn (stm 46) "_law_join" "_law_join" 3 [] .none .none .none (.str (ys "law_te0059_01") 1259) none (.ref 802) .none 0)), #[]⟩
noncomputable def ob538 : Obj := ⟨.none, none, (.func (fn (stm 47) "_law_leaf" "_law_leaf" 0 [] .none .none .none .none none .none .none 0)), #[]⟩
noncomputable def ob539 : Obj := ⟨(.type "code"), none, (.fields #[(.str (ys "_law_leaf") 1419), (.str (ys "_law_leaf") 1420), (.str (ys "/claim/cut.py") 1421), (.int 422 0), (.int 3 0), (.int 0 0), (.int 0 0), (.int 3 0), (.ref 804), (.bool true), (.int 181 0), (.ref 805), .none, .none, .none, (.ref 806), (.int 1422 0), (.int 422 0), (.str (ys "/claim/cut.py") 1423)]), #[]⟩
noncomputable def ob540 : Obj := ⟨(.type "function"), none, (.func (fn (stm 47) "_law_leaf" "_law_leaf" 3 [] .none .none .none (.str (ys "law_te0059_01") 1259) none (.ref 807) .none 0)), #[]⟩
noncomputable def ob541 : Obj := ⟨(.type "tuple"), none, (.seq #[(.str (ys "tape") 1428), (.str (ys "n") 1429), (.str (ys "depth") 1430), (.str (ys "last") 1431), (.str (ys "kind") 1432), (.str (ys "r") 1433), (.str (ys "name") 1434), (.str (ys "before") 1435), (.str (ys "start") 1436), (.str (ys "text") 1437), (.str (ys "inner") 1438), (.str (ys "below") 1439), (.str (ys "front") 1440)] 0), #[]⟩
noncomputable def ob542 : Obj := ⟨.none, none, (.func (fn (stm 48) "_law_node" "_law_node" 0 [] .none .none .none .none none .none .none 0)), #[]⟩
noncomputable def ob543 : Obj := ⟨(.type "code"), none, (.fields #[(.str (ys "_law_node") 1425), (.str (ys "_law_node") 1426), (.str (ys "/claim/cut.py") 1427), (.int 465 0), (.int 4 0), (.int 0 0), (.int 0 0), (.int 3 0), (.ref 809), (.bool true), (.int 181 0), (.ref 810), .none, (.ref 811), (.ref 812), (.ref 813), (.int 1441 0), (.int 465 0), (.str (ys "/claim/cut.py") 1442)]), #[]⟩
noncomputable def ob544 : Obj := ⟨(.type "function"), none, (.func (fn (stm 48) "_law_node" "_law_node" 3 [] .none .none .none (.str (ys "law_te0059_01") 1259) none (.ref 814) .none 0)), #[]⟩
noncomputable def ob545 : Obj := ⟨(.type "tuple"), none, (.seq #[(.str (ys "tape") 1447), (.str (ys "count") 1448), (.str (ys "depth") 1449), (.str (ys "last") 1450), (.str (ys "nodes") 1451), (.str (ys "told") 1452), (.str (ys "_") 1453), (.str (ys "node") 1454), (.str (ys "kind") 1455), (.str (ys "text") 1456)] 0), #[]⟩
noncomputable def ob546 : Obj := ⟨.none, none, (.func (fn (stm 49) "_law_row" "_law_row" 0 [] .none .none .none .none none .none .none 0)), #[]⟩
noncomputable def ob547 : Obj := ⟨(.type "code"), none, (.fields #[(.str (ys "_law_row") 1444), (.str (ys "_law_row") 1445), (.str (ys "/claim/cut.py") 1446), (.int 499 0), (.int 4 0), (.int 0 0), (.int 0 0), (.int 3 0), (.ref 816), (.bool true), (.int 181 0), (.ref 817), .none, (.ref 818), (.ref 819), (.ref 820), (.int 1457 0), (.int 499 0), (.str (ys "/claim/cut.py") 1458)]), #[]⟩
noncomputable def ob548 : Obj := ⟨(.type "function"), none, (.func (fn (stm 49) "_law_row" "_law_row" 3 [] .none .none .none (.str (ys "law_te0059_01") 1259) none (.ref 821) .none 0)), #[]⟩
noncomputable def ob549 : Obj := ⟨(.type "tuple"), none, (.seq #[(.str (ys "tape") 1463), (.str (ys "r") 1464), (.str (ys "calls") 1465), (.str (ys "inner") 1466), (.str (ys "below") 1467), (.str (ys "name") 1468), (.str (ys "node") 1469), (.str (ys "text") 1470)] 0), #[]⟩
noncomputable def ob550 : Obj := ⟨.none, none, (.func (fn (stm 50) "_law_endless" "_law_endless" 0 [] .none .none .none .none none .none .none 0)), #[]⟩
noncomputable def ob551 : Obj := ⟨(.type "code"), none, (.fields #[(.str (ys "_law_endless") 1460), (.str (ys "_law_endless") 1461), (.str (ys "/claim/cut.py") 1462), (.int 512 0), (.int 3 0), (.int 0 0), (.int 0 0), (.int 3 0), (.ref 823), (.bool true), (.int 181 0), (.ref 824), .none, (.ref 825), (.ref 826), (.ref 827), (.int 1471 0), (.int 512 0), (.str (ys "/claim/cut.py") 1472)]), #[]⟩
noncomputable def ob552 : Obj := ⟨(.type "function"), none, (.func (fn (stm 50) "_law_endless" "_law_endless" 3 [] .none .none .none (.str (ys "law_te0059_01") 1259) none (.ref 828) .none 0)), #[]⟩
noncomputable def ob553 : Obj := ⟨.none, none, (.func (fn (stm 51) "law" "law" 0 [] .none .none .none .none none .none .none 0)), #[]⟩
noncomputable def ob554 : Obj := ⟨(.type "code"), none, (.fields #[(.str (ys "law") 1474), (.str (ys "law") 1475), (.str (ys "/claim/cut.py") 1476), (.int 525 0), (.int 1 0), (.int 0 0), (.int 0 0), (.int 3 0), (.ref 830), (.bool true), (.int 181 0), (.ref 831), .none, .none, .none, (.ref 832), (.int 1477 0), (.int 525 0), (.str (ys "/claim/cut.py") 1478)]), #[]⟩
noncomputable def ob555 : Obj := ⟨(.type "function"), none, (.func (fn (stm 51) "law" "law" 3 [] .none .none .none (.str (ys "law_te0059_01") 1259) none (.ref 833) .none 0)), #[]⟩
noncomputable def ob556 (P : Params) : Obj := ⟨(.type "dict"), none, (.dict #[(de P "__name__" 165 (.str (ys "tinycss2.ast") 233)), (de P "__doc__" 166 .none), (de P "__package__" 167 .none), (de P "__loader__" 168 (.builtin "__main__.__loader__#opaque")), (de P "__spec__" 169 .none), (de P "__annotations__" 170 (.ref 6)), (de P "__builtins__" 171 (.ref 4)), (de P "__file__" 173 (.str (ys "/claim/cut.py") 172)), (de P "__cached__" 174 .none), (de P "serialize" 196 (.ref 21)), (de P "serialize_identifier" 205 (.ref 28)), (de P "serialize_name" 212 (.ref 35)), (de P "_serialize_to" 223 (.ref 42)), (de P "serialize_to_serializer" 224 (.ref 42)), (de P "_is_bad_pair" 232 (.ref 49)), (de P "ascii_lower" 240 (.ref 54)), (de P "Node" 290 (.ref 87)), (de P "ParseError" 336 (.ref 117)), (de P "Comment" 377 (.ref 147)), (de P "WhitespaceToken" 418 (.ref 176)), (de P "LiteralToken" 476 (.ref 219)), (de P "IdentToken" 521 (.ref 248))] 22), #[]⟩
noncomputable def ob557 : Obj := ⟨(.type "type"), none, (.cls ⟨(ys "Node"), [(.type "object")], [(.ref 87), (.type "object")], 86, (ys "Node"), false, [(ys "source_column"), (ys "source_line")], [(.ref 117), (.ref 147), (.ref 176), (.ref 219), (.ref 248)], false, none, false⟩), #[none, none, (some (.str (ys "Node") 241)), (some (.str (ys "Node") 249)), (some (.builtin "object.__new__")), (some (.bool false))]⟩
noncomputable def ob558 : Obj := ⟨.none, none, (.fields #[(.int 2 0), (.int 0 0), (.ref 20), (.int 6 0), (.int 0 0), (.ref 27), (.int 20 0), (.int 0 0), (.ref 34), (.int 22 0), (.int 0 0), (.ref 41), (.int 35 0), (.int 0 0), (.ref 48), (.int 38 0), (.int 0 0), (.ref 53), (.int 40 0), (.int 0 0), (.ref 60), (.int 54 0), (.int 0 0), (.ref 97), (.int 74 0), (.int 0 0), (.ref 127), (.int 86 0), (.int 0 0), (.ref 156), (.int 96 0), (.int 0 0), (.ref 185), (.int 112 0), (.int 0 0), (.ref 228)]), #[]⟩
noncomputable def ob559 (P : Params) : Obj := ⟨(.type "dict"), none, (.dict #[(de P "__name__" 165 (.str (ys "tinycss2.ast") 233)), (de P "__doc__" 166 .none), (de P "__package__" 167 .none), (de P "__loader__" 168 (.builtin "__main__.__loader__#opaque")), (de P "__spec__" 169 .none), (de P "__annotations__" 170 (.ref 6)), (de P "__builtins__" 171 (.ref 4)), (de P "__file__" 173 (.str (ys "/claim/cut.py") 172)), (de P "__cached__" 174 .none), (de P "serialize" 196 (.ref 21)), (de P "serialize_identifier" 205 (.ref 28)), (de P "serialize_name" 212 (.ref 35)), (de P "_serialize_to" 223 (.ref 42)), (de P "serialize_to_serializer" 224 (.ref 42)), (de P "_is_bad_pair" 232 (.ref 49)), (de P "ascii_lower" 240 (.ref 54)), (de P "Node" 290 (.ref 87)), (de P "ParseError" 336 (.ref 117)), (de P "Comment" 377 (.ref 147)), (de P "WhitespaceToken" 418 (.ref 176)), (de P "LiteralToken" 476 (.ref 219)), (de P "IdentToken" 521 (.ref 248)), (de P "AtKeywordToken" 566 (.ref 278)), (de P "HashToken" 612 (.ref 308)), (de P "StringToken" 658 (.ref 338)), (de P "URLToken" 704 (.ref 368)), (de P "UnicodeRangeToken" 750 (.ref 398)), (de P "NumberToken" 805 (.ref 428)), (de P "PercentageToken" 860 (.ref 460))] 29), #[]⟩
noncomputable def ob560 : Obj := ⟨(.type "type"), none, (.cls ⟨(ys "Node"), [(.type "object")], [(.ref 87), (.type "object")], 86, (ys "Node"), false, [(ys "source_column"), (ys "source_line")], [(.ref 117), (.ref 147), (.ref 176), (.ref 219), (.ref 248), (.ref 278), (.ref 308), (.ref 338), (.ref 368), (.ref 398), (.ref 428), (.ref 460)], false, none, false⟩), #[none, none, (some (.str (ys "Node") 241)), (some (.str (ys "Node") 249)), (some (.builtin "object.__new__")), (some (.bool false))]⟩
noncomputable def ob561 : Obj := ⟨.none, none, (.fields #[(.int 2 0), (.int 0 0), (.ref 20), (.int 6 0), (.int 0 0), (.ref 27), (.int 20 0), (.int 0 0), (.ref 34), (.int 22 0), (.int 0 0), (.ref 41), (.int 35 0), (.int 0 0), (.ref 48), (.int 38 0), (.int 0 0), (.ref 53), (.int 40 0), (.int 0 0), (.ref 60), (.int 54 0), (.int 0 0), (.ref 97), (.int 74 0), (.int 0 0), (.ref 127), (.int 86 0), (.int 0 0), (.ref 156), (.int 96 0), (.int 0 0), (.ref 185), (.int 112 0), (.int 0 0), (.ref 228), (.int 126 0), (.int 0 0), (.ref 258), (.int 141 0), (.int 0 0), (.ref 288), (.int 156 0), (.int 0 0), (.ref 318), (.int 167 0), (.int 0 0), (.ref 348), (.int 178 0), (.int 0 0), (.ref 378), (.int 192 0), (.int 0 0), (.ref 408), (.int 205 0), (.int 0 0), (.ref 440)]), #[]⟩
noncomputable def ob562 (P : Params) : Obj := ⟨(.type "dict"), none, (.dict #[(de P "__name__" 165 (.str (ys "law_te0059_01") 1259)), (de P "__doc__" 166 .none), (de P "__package__" 167 .none), (de P "__loader__" 168 (.builtin "__main__.__loader__#opaque")), (de P "__spec__" 169 .none), (de P "__annotations__" 170 (.ref 6)), (de P "__builtins__" 171 (.ref 4)), (de P "__file__" 173 (.str (ys "/claim/cut.py") 172)), (de P "__cached__" 174 .none), (de P "serialize" 196 (.ref 21)), (de P "serialize_identifier" 205 (.ref 28)), (de P "serialize_name" 212 (.ref 35)), (de P "_serialize_to" 223 (.ref 42)), (de P "serialize_to_serializer" 224 (.ref 42)), (de P "_is_bad_pair" 232 (.ref 49)), (de P "ascii_lower" 240 (.ref 54)), (de P "Node" 290 (.ref 87)), (de P "ParseError" 336 (.ref 117)), (de P "Comment" 377 (.ref 147)), (de P "WhitespaceToken" 418 (.ref 176)), (de P "LiteralToken" 476 (.ref 219)), (de P "IdentToken" 521 (.ref 248)), (de P "AtKeywordToken" 566 (.ref 278)), (de P "HashToken" 612 (.ref 308)), (de P "StringToken" 658 (.ref 338)), (de P "URLToken" 704 (.ref 368)), (de P "UnicodeRangeToken" 750 (.ref 398)), (de P "NumberToken" 805 (.ref 428)), (de P "PercentageToken" 860 (.ref 460)), (de P "DimensionToken" 925 (.ref 492)), (de P "ParenthesesBlock" 966 (.ref 526)), (de P "SquareBracketsBlock" 1007 (.ref 555)), (de P "CurlyBracketsBlock" 1048 (.ref 584)), (de P "FunctionBlock" 1100 (.ref 613)), (de P "Declaration" 1156 (.ref 644)), (de P "QualifiedRule" 1202 (.ref 676)), (de P "AtRule" 1258 (.ref 706))] 37), #[]⟩
noncomputable def ob563 : Obj := ⟨.none, none, (.fields #[(.int 2 0), (.int 0 0), (.ref 20), (.int 6 0), (.int 0 0), (.ref 27), (.int 20 0), (.int 0 0), (.ref 34), (.int 22 0), (.int 0 0), (.ref 41), (.int 35 0), (.int 0 0), (.ref 48), (.int 38 0), (.int 0 0), (.ref 53), (.int 40 0), (.int 0 0), (.ref 60), (.int 54 0), (.int 0 0), (.ref 97), (.int 74 0), (.int 0 0), (.ref 127), (.int 86 0), (.int 0 0), (.ref 156), (.int 96 0), (.int 0 0), (.ref 185), (.int 112 0), (.int 0 0), (.ref 228), (.int 126 0), (.int 0 0), (.ref 258), (.int 141 0), (.int 0 0), (.ref 288), (.int 156 0), (.int 0 0), (.ref 318), (.int 167 0), (.int 0 0), (.ref 348), (.int 178 0), (.int 0 0), (.ref 378), (.int 192 0), (.int 0 0), (.ref 408), (.int 205 0), (.int 0 0), (.ref 440), (.int 219 0), (.int 0 0), (.ref 472), (.int 243 0), (.int 0 0), (.ref 506), (.int 255 0), (.int 0 0), (.ref 535), (.int 267 0), (.int 0 0), (.ref 564), (.int 279 0), (.int 0 0), (.ref 593), (.int 303 0), (.int 0 0), (.ref 624), (.int 320 0), (.int 0 0), (.ref 656), (.int 334 0), (.int 0 0), (.ref 686)]), #[]⟩
noncomputable def ob564 (P : Params) : Obj := ⟨(.type "dict"), none, (.dict #[(de P "__name__" 165 (.str (ys "law_te0059_01") 1259)), (de P "__doc__" 166 .none), (de P "__package__" 167 .none), (de P "__loader__" 168 (.builtin "__main__.__loader__#opaque")), (de P "__spec__" 169 .none), (de P "__annotations__" 170 (.ref 6)), (de P "__builtins__" 171 (.ref 4)), (de P "__file__" 173 (.str (ys "/claim/cut.py") 172)), (de P "__cached__" 174 .none), (de P "serialize" 196 (.ref 21)), (de P "serialize_identifier" 205 (.ref 28)), (de P "serialize_name" 212 (.ref 35)), (de P "_serialize_to" 223 (.ref 42)), (de P "serialize_to_serializer" 224 (.ref 42)), (de P "_is_bad_pair" 232 (.ref 49)), (de P "ascii_lower" 240 (.ref 54)), (de P "Node" 290 (.ref 87)), (de P "ParseError" 336 (.ref 117)), (de P "Comment" 377 (.ref 147)), (de P "WhitespaceToken" 418 (.ref 176)), (de P "LiteralToken" 476 (.ref 219)), (de P "IdentToken" 521 (.ref 248)), (de P "AtKeywordToken" 566 (.ref 278)), (de P "HashToken" 612 (.ref 308)), (de P "StringToken" 658 (.ref 338)), (de P "URLToken" 704 (.ref 368)), (de P "UnicodeRangeToken" 750 (.ref 398)), (de P "NumberToken" 805 (.ref 428)), (de P "PercentageToken" 860 (.ref 460)), (de P "DimensionToken" 925 (.ref 492)), (de P "ParenthesesBlock" 966 (.ref 526)), (de P "SquareBracketsBlock" 1007 (.ref 555)), (de P "CurlyBracketsBlock" 1048 (.ref 584)), (de P "FunctionBlock" 1100 (.ref 613)), (de P "Declaration" 1156 (.ref 644)), (de P "QualifiedRule" 1202 (.ref 676)), (de P "AtRule" 1258 (.ref 706)), (de P "_law_COLUMNS" 1303 (.ref 713)), (de P "_law_TABLE" 1309 (.ref 720)), (de P "_law_SIGNS" 1326 (.ref 721)), (de P "_law_NUMBERS" 1332 (.ref 728)), (de P "_law_UNITS" 1338 (.ref 735)), (de P "_law_LITERALS" 1344 (.ref 742)), (de P "_law_STRINGS" 1350 (.ref 749)), (de P "_law_PLAIN" 1352 (.str (ys "abcdefghijklmnopqrstuvwxyzABCDEFGHIJKLMNOPQRSTUVWXYZ0123456789-_") 1351))] 45), #[]⟩
noncomputable def ob565 : Obj := ⟨.none, none, (.fields #[(.int 2 0), (.int 0 0), (.ref 20), (.int 6 0), (.int 0 0), (.ref 27), (.int 20 0), (.int 0 0), (.ref 34), (.int 22 0), (.int 0 0), (.ref 41), (.int 35 0), (.int 0 0), (.ref 48), (.int 38 0), (.int 0 0), (.ref 53), (.int 40 0), (.int 0 0), (.ref 60), (.int 54 0), (.int 0 0), (.ref 97), (.int 74 0), (.int 0 0), (.ref 127), (.int 86 0), (.int 0 0), (.ref 156), (.int 96 0), (.int 0 0), (.ref 185), (.int 112 0), (.int 0 0), (.ref 228), (.int 126 0), (.int 0 0), (.ref 258), (.int 141 0), (.int 0 0), (.ref 288), (.int 156 0), (.int 0 0), (.ref 318), (.int 167 0), (.int 0 0), (.ref 348), (.int 178 0), (.int 0 0), (.ref 378), (.int 192 0), (.int 0 0), (.ref 408), (.int 205 0), (.int 0 0), (.ref 440), (.int 219 0), (.int 0 0), (.ref 472), (.int 243 0), (.int 0 0), (.ref 506), (.int 255 0), (.int 0 0), (.ref 535), (.int 267 0), (.int 0 0), (.ref 564), (.int 279 0), (.int 0 0), (.ref 593), (.int 303 0), (.int 0 0), (.ref 624), (.int 320 0), (.int 0 0), (.ref 656), (.int 334 0), (.int 0 0), (.ref 686), (.int 357 0), (.int 0 0), (.ref 719), (.int 360 0), (.int 0 0), (.ref 727), (.int 362 0), (.int 0 0), (.ref 734), (.int 364 0), (.int 0 0), (.ref 741), (.int 366 0), (.int 0 0), (.ref 748)]), #[]⟩
noncomputable def h46 (P : Params) : Heap := ⟨#[(boot_o_0 P), (boot_o_1 P), (boot_o_2 P), (boot_o_3 P), (boot_o_4 P), (boot_o_5 P), (boot_o_6 P), (boot_o_7 P), (boot_o_8 P), (boot_o_9 P), (boot_o_10 P), ob1, ob5, ob3, ob4], {}⟩
noncomputable def hFin (P : Params) : Heap := ⟨#[(boot_o_0 P), (boot_o_1 P), (boot_o_2 P), (ob0 P), (boot_o_4 P), (boot_o_5 P), (boot_o_6 P), (boot_o_7 P), (boot_o_8 P), (boot_o_9 P), (boot_o_10 P), ob1, ob2, ob3, ob4, ob1, ob5, ob6, ob1, ob7, ob8, ob9, ob1, ob5, ob10, ob1, ob11, ob12, ob13, ob1, ob5, ob14, ob1, ob15, ob16, ob17, ob1, ob5, ob18, ob1, ob19, ob20, ob21, ob1, ob5, ob22, ob1, ob23, ob24, ob25, ob1, ob5, ob26, ob27, ob28, ob1, ob29, (ob30 P), ob1, ob31, ob32, ob33, ob34, ob1, ob5, ob35, ob1, ob36, ob37, ob38, ob1, ob5, ob39, ob1, ob40, ob41, ob42, ob1, ob5, ob43, ob1, ob44, ob45, ob46, ob47, ob48, (ob49 P), ob50, ob51, ob52, ob53, ob54, ob55, ob29, (ob56 P), ob1, ob57, ob58, ob59, ob60, ob1, ob5, ob61, ob1, ob62, ob63, ob64, ob1, ob5, ob65, ob1, ob66, ob67, ob68, ob69, ob70, (ob71 P), ob72, ob73, ob74, ob75, ob76, ob55, ob29, (ob77 P), ob1, ob78, ob79, ob80, ob81, ob1, ob5, ob82, ob1, ob83, ob84, ob85, ob1, ob5, ob86, ob1, ob87, ob88, ob89, ob90, ob91, (ob92 P), ob93, ob94, ob95, ob96, ob55, ob29, (ob97 P), ob1, ob98, ob99, ob100, ob101, ob1, ob5, ob102, ob1, ob103, ob104, ob105, ob1, ob5, ob106, ob1, ob107, ob108, ob109, ob110, ob111, (ob112 P), ob113, ob114, ob115, ob116, ob55, ob29, (ob117 P), ob1, ob118, ob119, ob120, ob121, ob1, ob5, ob122, ob1, ob123, ob124, ob125, ob1, ob5, ob126, ob1, ob127, ob128, ob129, ob1, ob5, ob130, ob1, ob131, ob132, ob133, ob1, ob5, ob134, ob1, ob135, ob136, ob137, ob138, ob139, (ob140 P), ob141, ob142, ob143, ob144, ob55, ob29, (ob145 P), ob1, ob146, ob147, ob148, ob149, ob1, ob5, ob150, ob1, ob151, ob152, ob153, ob1, ob5, ob154, ob1, ob155, ob156, ob157, ob158, ob159, (ob160 P), ob161, ob162, ob163, ob164, ob165, ob55, ob29, (ob166 P), ob1, ob167, ob168, ob169, ob170, ob1, ob5, ob171, ob1, ob172, ob173, ob174, ob1, ob5, ob175, ob1, ob176, ob177, ob178, ob179, ob180, (ob181 P), ob182, ob183, ob184, ob185, ob186, ob55, ob29, (ob187 P), ob1, ob188, ob189, ob190, ob191, ob1, ob5, ob192, ob1, ob193, ob194, ob195, ob1, ob5, ob196, ob1, ob197, ob198, ob199, ob200, ob201, (ob202 P), ob203, ob204, ob205, ob206, ob207, ob55, ob29, (ob208 P), ob1, ob209, ob210, ob211, ob212, ob1, ob5, ob213, ob1, ob214, ob215, ob216, ob1, ob5, ob217, ob1, ob218, ob219, ob220, ob221, ob222, (ob223 P), ob224, ob225, ob226, ob227, ob228, ob55, ob29, (ob229 P), ob1, ob230, ob231, ob232, ob233, ob1, ob5, ob234, ob1, ob235, ob236, ob237, ob1, ob5, ob238, ob1, ob239, ob240, ob241, ob242, ob243, (ob244 P), ob245, ob246, ob247, ob248, ob249, ob55, ob29, (ob250 P), ob1, ob251, ob252, ob253, ob254, ob1, ob5, ob255, ob1, ob256, ob257, ob258, ob1, ob5, ob259, ob1, ob260, ob261, ob262, ob263, ob264, (ob265 P), ob266, ob267, ob268, ob269, ob270, ob55, ob29, (ob271 P), ob1, ob272, ob273, ob274, ob275, ob1, ob5, ob276, ob1, ob277, ob278, ob279, ob1, ob5, ob280, ob1, ob281, ob282, ob283, ob284, ob285, (ob286 P), ob287, ob288, ob289, ob290, ob291, ob292, ob293, ob55, ob29, (ob294 P), ob1, ob295, ob296, ob297, ob298, ob1, ob5, ob299, ob1, ob300, ob301, ob302, ob1, ob5, ob303, ob1, ob304, ob305, ob306, ob307, ob308, (ob309 P), ob310, ob311, ob312, ob313, ob314, ob315, ob316, ob55, ob29, (ob317 P), ob1, ob318, ob319, ob320, ob321, ob1, ob5, ob322, ob1, ob323, ob324, ob325, ob1, ob5, ob326, ob1, ob327, ob328, ob329, ob330, ob331, (ob332 P), ob333, ob334, ob335, ob336, ob337, ob338, ob339, ob340, ob341, ob55, ob29, (ob342 P), ob1, ob343, ob344, ob345, ob346, ob1, ob5, ob347, ob1, ob348, ob349, ob350, ob1, ob5, ob351, ob1, ob352, ob353, ob354, ob355, ob356, (ob357 P), ob358, ob359, ob360, ob361, ob55, ob29, (ob362 P), ob1, ob363, ob364, ob365, ob366, ob1, ob5, ob367, ob1, ob368, ob369, ob370, ob1, ob5, ob371, ob1, ob372, ob373, ob374, ob375, ob376, (ob377 P), ob378, ob379, ob380, ob381, ob55, ob29, (ob382 P), ob1, ob383, ob384, ob385, ob386, ob1, ob5, ob387, ob1, ob388, ob389, ob390, ob1, ob5, ob391, ob1, ob392, ob393, ob394, ob395, ob396, (ob397 P), ob398, ob399, ob400, ob401, ob55, ob29, (ob402 P), ob1, ob403, ob404, ob405, ob406, ob1, ob5, ob407, ob1, ob408, ob409, ob410, ob1, ob5, ob411, ob1, ob412, ob413, ob414, ob415, ob416, (ob417 P), ob418, ob419, ob420, ob421, ob422, ob423, ob55, ob29, (ob424 P), ob1, ob425, ob426, ob427, ob428, ob1, ob5, ob429, ob1, ob430, ob431, ob432, ob1, ob5, ob433, ob1, ob434, ob435, ob436, ob437, ob438, (ob439 P), ob440, ob441, ob442, ob443, ob444, ob445, ob446, ob55, ob29, (ob447 P), ob1, ob448, ob449, ob450, ob451, ob1, ob5, ob452, ob1, ob453, ob454, ob455, ob1, ob5, ob456, ob1, ob457, ob458, ob459, ob460, ob461, (ob462 P), ob463, ob464, ob465, ob466, ob467, ob55, ob29, (ob468 P), ob1, ob469, ob470, ob471, ob472, ob1, ob5, ob473, ob1, ob474, ob475, ob476, ob1, ob5, ob477, ob1, ob478, ob479, ob480, ob481, ob482, (ob483 P), ob484, ob485, ob486, ob487, ob488, ob489, ob490, (ob491 P), ob1, ob5, ob1, ob1, ob492, ob493, ob494, ob495, ob1, ob5, ob1, ob1, ob496, ob497, ob498, ob1, ob5, ob1, ob1, ob499, ob500, ob501, ob1, ob5, ob1, ob1, ob502, ob503, ob504, ob1, ob5, ob1, ob1, ob505, ob506, ob507, ob1, ob5, ob1, ob1, ob508, ob509, ob510, ob1, ob5, ob511, ob1, ob512, ob513, ob514, ob1, ob5, ob515, ob1, ob516, ob517, ob518, ob1, ob5, ob519, ob1, ob520, ob521, ob522, ob1, ob5, ob523, ob524, ob525, ob1, ob5, ob526, ob1, ob527, ob528, ob529, ob1, ob5, ob530, ob1, ob531, ob532, ob533, ob1, ob5, ob534, ob1, ob535, ob536, ob537, ob1, ob5, ob538, ob539, ob540, ob1, ob5, ob541, ob1, ob542, ob543, ob544, ob1, ob5, ob545, ob1, ob546, ob547, ob548, ob1, ob5, ob549, ob1, ob550, ob551, ob552, ob1, ob5, ob553, ob554, ob555], {}⟩
noncomputable def t47 (P : Params) : BT := (yn (boot_o_0 P) (yn (boot_o_1 P) (yn (boot_o_3 P) (yl (boot_o_7 P)) (yl ob1)) (yn (boot_o_5 P) (yl (boot_o_9 P)) (yl ob3))) (yn (boot_o_2 P) (yn (boot_o_4 P) (yl (boot_o_8 P)) (yl ob5)) (yn (boot_o_6 P) (yl (boot_o_10 P)) (yl ob4))))
noncomputable def t305 (P : Params) : BT := (yn (boot_o_0 P) (yn (boot_o_1 P) (yn (ob556 P) (yn (boot_o_7 P) (yn ob1 (yn ob14 (yn ob1 (yl ob79) (yl ob1)) (yn ob1 (yl ob1) (yl ob55))) (yn ob23 (yn ob43 (yl ob89) (yl ob132)) (yn ob66 (yl (ob112 P)) (yl ob5)))) (yn ob5 (yn ob1 (yn ob5 (yl ob84) (yl ob127)) (yn ob1 (yl ob5) (yl ob1))) (yn ob1 (yn ob557 (yl ob55) (yl ob137)) (yn ob74 (yl ob1) (yl (ob160 P)))))) (yn ob1 (yn ob7 (yn ob17 (yn ob36 (yl ob5) (yl ob1)) (yn ob60 (yl ob103) (yl ob146))) (yn ob5 (yn ob46 (yl ob93) (yl ob134)) (yn ob70 (yl ob116) (yl ob156)))) (yn ob12 (yn ob1 (yn ob41 (yl ob86) (yl ob5)) (yn ob1 (yl ob108) (yl ob151))) (yn ob31 (yn ob54 (yl ob98) (yl ob141)) (yn ob29 (yl ob121) (yl ob164)))))) (yn (boot_o_5 P) (yn (boot_o_9 P) (yn ob6 (yn ob15 (yn ob35 (yl ob81) (yl ob124)) (yn ob58 (yl ob102) (yl (ob145 P)))) (yn ob25 (yn ob44 (yl ob91) (yl ob1)) (yn ob68 (yl ob114) (yl ob1)))) (yn ob1 (yn ob20 (yn ob1 (yl ob1) (yl ob129)) (yn ob63 (yl ob1) (yl ob150))) (yn (ob30 P) (yn ob52 (yl (ob97 P)) (yl ob139)) (yn ob76 (yl ob119) (yl ob162))))) (yn ob3 (yn ob9 (yn ob5 (yn ob38 (yl ob1) (yl ob126)) (yn ob5 (yl ob105) (yl ob148))) (yn ob27 (yn ob48 (yl ob95) (yl ob135)) (yn ob72 (yl ob29) (yl ob158)))) (yn ob1 (yn ob22 (yn ob1 (yl ob87) (yl ob1)) (yn ob65 (yl ob110) (yl ob153))) (yn ob33 (yn ob29 (yl ob100) (yl ob143)) (yn ob1 (yl ob5) yz)))))) (yn (boot_o_2 P) (yn (boot_o_4 P) (yn (boot_o_8 P) (yn ob5 (yn ob1 (yn ob5 (yl ob80) (yl ob123)) (yn ob57 (yl ob5) (yl ob29))) (yn ob24 (yn ob1 (yl ob90) (yl ob133)) (yn ob67 (yl ob113) (yl ob154)))) (yn ob10 (yn ob19 (yn ob39 (yl ob85) (yl ob128)) (yn ob62 (yl ob106) (yl ob5))) (yn ob29 (yn ob51 (yl ob29) (yl ob138)) (yn ob75 (yl ob118) (yl ob161))))) (yn ob558 (yn ob8 (yn ob1 (yn ob37 (yl ob82) (yl ob5)) (yn ob1 (yl ob104) (yl ob147))) (yn ob26 (yn ob47 (yl ob94) (yl ob1)) (yn (ob71 P) (yl ob55) (yl ob157)))) (yn ob13 (yn ob5 (yn ob42 (yl ob1) (yl ob130)) (yn ob5 (yl ob109) (yl ob152))) (yn ob32 (yn ob55 (yl ob99) (yl ob142)) (yn (ob77 P) (yl ob1) (yl ob165)))))) (yn (boot_o_6 P) (yn (boot_o_10 P) (yn ob1 (yn ob16 (yn ob1 (yl ob1) (yl ob125)) (yn ob59 (yl ob1) (yl ob1))) (yn ob1 (yn ob45 (yl (ob92 P)) (yl ob5)) (yn ob69 (yl ob115) (yl ob155)))) (yn ob11 (yn ob21 (yn ob40 (yl ob5) (yl ob1)) (yn ob64 (yl ob107) (yl ob1))) (yn ob1 (yn ob53 (yl ob1) (yl (ob140 P))) (yn ob55 (yl ob120) (yl ob163))))) (yn ob4 (yn ob1 (yn ob18 (yn ob1 (yl ob83) (yl ob1)) (yn ob61 (yl ob1) (yl ob149))) (yn ob28 (yn (ob49 P) (yl ob96) (yl ob136)) (yn ob73 (yl (ob117 P)) (yl ob159)))) (yn ob5 (yn ob1 (yn ob5 (yl ob88) (yl ob131)) (yn ob1 (yl ob111) (yl ob1))) (yn ob34 (yn (ob56 P) (yl ob101) (yl ob144)) (yn ob78 (yl ob122) yz)))))))
noncomputable def t540 (P : Params) : BT := (yn (boot_o_0 P) (yn (boot_o_1 P) (yn (ob559 P) (yn (boot_o_7 P) (yn ob1 (yn ob14 (yn ob1 (yn ob79 (yl (ob166 P)) (yl ob255)) (yn ob1 (yl ob211) (yl ob300))) (yn ob1 (yn ob1 (yl ob188) (yl ob277)) (yn ob55 (yl ob1) yz))) (yn ob23 (yn ob43 (yn ob89 (yl ob1) (yl ob267)) (yn ob132 (yl ob221) (yl ob313))) (yn ob66 (yn (ob112 P) (yl ob198) (yl ob290)) (yn ob5 (yl (ob244 P)) yz)))) (yn ob5 (yn ob1 (yn ob5 (yn ob84 (yl ob171) (yl ob1)) (yn ob127 (yl ob216) (yl ob305))) (yn ob1 (yn ob5 (yl ob193) (yl ob282)) (yn ob1 (yl ob5) yz))) (yn ob1 (yn ob560 (yn ob55 (yl ob183) (yl ob272)) (yn ob137 (yl ob55) yz)) (yn ob74 (yn ob1 (yl ob206) (yl ob295)) (yn (ob160 P) (yl (ob250 P)) yz))))) (yn ob1 (yn ob7 (yn ob17 (yn ob36 (yn ob5 (yl ob169) (yl ob258)) (yn ob1 (yl ob213) (yl ob5))) (yn ob60 (yn ob103 (yl ob1) (yl ob5)) (yn ob146 (yl ob235) yz))) (yn ob5 (yn ob46 (yn ob93 (yl ob179) (yl ob55)) (yn ob134 (yl ob225) yz)) (yn ob70 (yn ob116 (yl (ob202 P)) (yl ob55)) (yn ob156 (yl ob248) yz)))) (yn ob12 (yn ob1 (yn ob41 (yn ob86 (yl ob174) (yl ob263)) (yn ob5 (yl ob1) (yl (ob309 P)))) (yn ob1 (yn ob108 (yl ob5) (yl (ob286 P))) (yn ob151 (yl ob240) yz))) (yn ob31 (yn ob54 (yn ob98 (yl ob55) (yl ob1)) (yn ob141 (yl ob230) yz)) (yn ob29 (yn ob121 (yl (ob208 P)) (yl ob1)) (yn ob164 (yl ob253) yz)))))) (yn (boot_o_5 P) (yn (boot_o_9 P) (yn ob6 (yn ob15 (yn ob35 (yn ob81 (yl ob167) (yl ob256)) (yn ob124 (yl ob1) (yl ob302))) (yn ob58 (yn ob102 (yl ob190) (yl ob279)) (yn (ob145 P) (yl ob234) yz))) (yn ob25 (yn ob44 (yn ob91 (yl ob177) (yl ob269)) (yn ob1 (yl (ob223 P)) (yl ob315))) (yn ob68 (yn ob114 (yl ob200) (yl ob292)) (yn ob1 (yl ob246) yz)))) (yn ob1 (yn ob20 (yn ob1 (yn ob1 (yl ob172) (yl ob261)) (yn ob129 (yl ob5) (yl ob307))) (yn ob63 (yn ob1 (yl ob195) (yl ob284)) (yn ob150 (yl ob1) yz))) (yn (ob30 P) (yn ob52 (yn (ob97 P) (yl ob185) (yl ob274)) (yn ob139 (yl (ob229 P)) yz)) (yn ob76 (yn ob119 (yl ob55) (yl ob297)) (yn ob162 (yl ob251) yz))))) (yn ob3 (yn ob9 (yn ob5 (yn ob38 (yn ob1 (yl ob1) (yl ob5)) (yn ob126 (yl ob214) (yl ob1))) (yn ob5 (yn ob105 (yl ob192) (yl ob1)) (yn ob148 (yl ob237) yz))) (yn ob27 (yn ob48 (yn ob95 (yl (ob181 P)) (yl (ob271 P))) (yn ob135 (yl ob227) yz)) (yn ob72 (yn ob29 (yl ob204) (yl (ob294 P))) (yn ob158 (yl ob55) yz)))) (yn ob1 (yn ob22 (yn ob1 (yn ob87 (yl ob5) (yl (ob265 P))) (yn ob1 (yl ob219) (yl ob311))) (yn ob65 (yn ob110 (yl ob1) (yl ob288)) (yn ob153 (yl ob242) yz))) (yn ob33 (yn ob29 (yn ob100 (yl (ob187 P)) (yl ob276)) (yn ob143 (yl ob232) yz)) (yn ob1 (yn ob5 (yl ob209) (yl ob299)) (yn ob55 (yl ob1) yz))))))) (yn (boot_o_2 P) (yn (boot_o_4 P) (yn (boot_o_8 P) (yn ob5 (yn ob1 (yn ob5 (yn ob80 (yl ob1) (yl ob1)) (yn ob123 (yl ob212) (yl ob301))) (yn ob57 (yn ob5 (yl ob189) (yl ob278)) (yn ob29 (yl ob5) yz))) (yn ob24 (yn ob1 (yn ob90 (yl ob176) (yl ob268)) (yn ob133 (yl ob222) (yl ob314))) (yn ob67 (yn ob113 (yl ob199) (yl ob291)) (yn ob154 (yl ob245) yz)))) (yn ob10 (yn ob19 (yn ob39 (yn ob85 (yl ob1) (yl ob260)) (yn ob128 (yl ob1) (yl ob306))) (yn ob62 (yn ob106 (yl ob194) (yl ob283)) (yn ob5 (yl ob238) yz))) (yn ob29 (yn ob51 (yn ob29 (yl ob184) (yl ob273)) (yn ob138 (yl ob29) yz)) (yn ob75 (yn ob118 (yl ob207) (yl ob296)) (yn ob161 (yl ob1) yz))))) (yn ob561 (yn ob8 (yn ob1 (yn ob37 (yn ob82 (yl ob170) (yl ob1)) (yn ob5 (yl ob1) (yl ob303))) (yn ob1 (yn ob104 (yl ob5) (yl ob280)) (yn ob147 (yl ob236) yz))) (yn ob26 (yn ob47 (yn ob94 (yl ob180) (yl ob29)) (yn ob1 (yl ob226) yz)) (yn (ob71 P) (yn ob55 (yl ob203) (yl ob29)) (yn ob157 (yl ob249) yz)))) (yn ob13 (yn ob5 (yn ob42 (yn ob1 (yl ob1) (yl ob264)) (yn ob130 (yl ob218) (yl ob310))) (yn ob5 (yn ob109 (yl ob196) (yl ob287)) (yn ob152 (yl ob241) yz))) (yn ob32 (yn ob55 (yn ob99 (yl ob29) (yl ob5)) (yn ob142 (yl ob231) yz)) (yn (ob77 P) (yn ob1 (yl ob1) (yl ob5)) (yn ob165 (yl ob254) yz)))))) (yn (boot_o_6 P) (yn (boot_o_10 P) (yn ob1 (yn ob16 (yn ob1 (yn ob1 (yl ob168) (yl ob257)) (yn ob125 (yl ob5) (yl ob1))) (yn ob59 (yn ob1 (yl ob191) (yl ob1)) (yn ob1 (yl ob1) yz))) (yn ob1 (yn ob45 (yn (ob92 P) (yl ob178) (yl ob270)) (yn ob5 (yl ob224) (yl ob316))) (yn ob69 (yn ob115 (yl ob201) (yl ob293)) (yn ob155 (yl ob247) yz)))) (yn ob11 (yn ob21 (yn ob40 (yn ob5 (yl ob173) (yl ob262)) (yn ob1 (yl ob217) (yl ob308))) (yn ob64 (yn ob107 (yl ob1) (yl ob285)) (yn ob1 (yl ob239) yz))) (yn ob1 (yn ob53 (yn ob1 (yl ob186) (yl ob275)) (yn (ob140 P) (yl ob1) yz)) (yn ob55 (yn ob120 (yl ob29) (yl ob298)) (yn ob163 (yl ob252) yz))))) (yn ob4 (yn ob1 (yn ob18 (yn ob1 (yn ob83 (yl ob5) (yl ob259)) (yn ob1 (yl ob215) (yl ob304))) (yn ob61 (yn ob1 (yl ob1) (yl ob281)) (yn ob149 (yl ob1) yz))) (yn ob28 (yn (ob49 P) (yn ob96 (yl ob182) (yl ob1)) (yn ob136 (yl ob228) yz)) (yn ob73 (yn (ob117 P) (yl ob205) (yl ob1)) (yn ob159 (yl ob29) yz)))) (yn ob5 (yn ob1 (yn ob5 (yn ob88 (yl ob175) (yl ob266)) (yn ob131 (yl ob220) (yl ob312))) (yn ob1 (yn ob111 (yl ob197) (yl ob289)) (yn ob1 (yl ob243) yz))) (yn ob34 (yn (ob56 P) (yn ob101 (yl ob1) (yl ob1)) (yn ob144 (yl ob233) yz)) (yn ob78 (yn ob122 (yl ob210) (yl ob1)) (yn ob29 (yl ob5) yz))))))))
noncomputable def t810 (P : Params) : BT := (yn (boot_o_0 P) (yn (boot_o_1 P) (yn (ob562 P) (yn (boot_o_7 P) (yn ob1 (yn ob14 (yn ob1 (yn ob79 (yn (ob166 P) (yl ob347) yz) (yn ob255 (yl ob435) yz)) (yn ob1 (yn ob211 (yl ob5) yz) (yn ob300 (yl ob481) yz))) (yn ob1 (yn ob1 (yn ob188 (yl ob369) yz) (yn ob277 (yl ob458) yz)) (yn ob55 (yn ob1 (yl ob412) yz) (yl ob323)))) (yn ob23 (yn ob43 (yn ob89 (yn ob1 (yl ob359) yz) (yn ob267 (yl ob448) yz)) (yn ob132 (yn ob221 (yl ob1) yz) (yl ob313))) (yn ob66 (yn (ob112 P) (yn ob198 (yl ob55) yz) (yn ob290 (yl ob471) yz)) (yn ob5 (yn (ob244 P) (yl ob425) yz) (yl ob336))))) (yn ob5 (yn ob1 (yn ob5 (yn ob84 (yn ob171 (yl ob1) yz) (yn ob1 (yl ob443) yz)) (yn ob127 (yn ob216 (yl (ob397 P)) yz) (yn ob305 (yl ob489) yz))) (yn ob1 (yn ob5 (yn ob193 (yl ob374) yz) (yn ob282 (yl ob466) yz)) (yn ob1 (yn ob5 (yl ob420) yz) (yl ob328)))) (yn ob1 (yn ob50 (yn ob55 (yn ob183 (yl ob364) yz) (yn ob272 (yl ob453) yz)) (yn ob137 (yn ob55 (yl ob1) yz) (yl ob318))) (yn ob74 (yn ob1 (yn ob206 (yl ob1) yz) (yn ob295 (yl ob476) yz)) (yn (ob160 P) (yn (ob250 P) (yl ob430) yz) (yl (ob342 P))))))) (yn ob1 (yn ob7 (yn ob17 (yn ob36 (yn ob5 (yn ob169 (yl ob350) yz) (yn ob258 (yl (ob439 P)) yz)) (yn ob1 (yn ob213 (yl ob393) yz) (yn ob5 (yl ob485) yz))) (yn ob60 (yn ob103 (yn ob1 (yl ob371) yz) (yn ob5 (yl (ob462 P)) yz)) (yn ob146 (yn ob235 (yl ob416) yz) (yl ob5)))) (yn ob5 (yn ob46 (yn ob93 (yn ob179 (yl ob29) yz) (yn ob55 (yl ob1) yz)) (yn ob134 (yn ob225 (yl ob406) yz) (yl ob55))) (yn ob70 (yn ob116 (yn (ob202 P) (yl ob383) yz) (yn ob55 (yl ob473) yz)) (yn ob156 (yn ob248 (yl ob1) yz) (yl ob340))))) (yn ob12 (yn ob1 (yn ob41 (yn ob86 (yn ob174 (yl ob355) yz) (yn ob263 (yl ob55) yz)) (yn ob5 (yn ob1 (yl ob401) yz) (yl (ob309 P)))) (yn ob1 (yn ob108 (yn ob5 (yl ob378) yz) (yn (ob286 P) (yl (ob468 P)) yz)) (yn ob151 (yn ob240 (yl ob55) yz) (yl (ob332 P))))) (yn ob31 (yn ob54 (yn ob98 (yn ob55 (yl ob5) yz) (yn ob1 (yl ob5) yz)) (yn ob141 (yn ob230 (yl ob1) yz) (yl ob1))) (yn ob29 (yn ob121 (yn (ob208 P) (yl ob388) yz) (yn ob1 (yl ob1) yz)) (yn ob164 (yn ob253 (yl ob5) yz) (yl ob345))))))) (yn (boot_o_5 P) (yn (boot_o_9 P) (yn ob6 (yn ob15 (yn ob35 (yn ob81 (yn ob167 (yl ob348) yz) (yn ob256 (yl ob437) yz)) (yn ob124 (yn ob1 (yl ob1) yz) (yn ob302 (yl (ob483 P)) yz))) (yn ob58 (yn ob102 (yn ob190 (yl ob1) yz) (yn ob279 (yl ob460) yz)) (yn (ob145 P) (yn ob234 (yl ob414) yz) (yl ob325)))) (yn ob25 (yn ob44 (yn ob91 (yn ob177 (yl ob361) yz) (yn ob269 (yl ob450) yz)) (yn ob1 (yn (ob223 P) (yl ob404) yz) (yl ob315))) (yn ob68 (yn ob114 (yn ob200 (yl (ob382 P)) yz) (yn ob292 (yl ob1) yz)) (yn ob1 (yn ob246 (yl ob427) yz) (yl ob338))))) (yn ob1 (yn ob20 (yn ob1 (yn ob1 (yn ob172 (yl ob353) yz) (yn ob261 (yl ob445) yz)) (yn ob129 (yn ob5 (yl ob399) yz) (yl ob307))) (yn ob63 (yn ob1 (yn ob195 (yl ob376) yz) (yn ob284 (yl ob55) yz)) (yn ob150 (yn ob1 (yl ob422) yz) (yl ob330)))) (yn (ob30 P) (yn ob52 (yn (ob97 P) (yn ob185 (yl ob366) yz) (yn ob274 (yl ob455) yz)) (yn ob139 (yn (ob229 P) (yl ob409) yz) (yl ob320))) (yn ob76 (yn ob119 (yn ob55 (yl ob387) yz) (yn ob297 (yl ob5) yz)) (yn ob162 (yn ob251 (yl ob432) yz) (yl ob343)))))) (yn ob3 (yn ob9 (yn ob5 (yn ob38 (yn ob1 (yn ob1 (yl ob5) yz) (yn ob5 (yl ob441) yz)) (yn ob126 (yn ob214 (yl ob395) yz) (yn ob1 (yl ob487) yz))) (yn ob5 (yn ob105 (yn ob192 (yl ob372) yz) (yn ob1 (yl ob464) yz)) (yn ob148 (yn ob237 (yl ob418) yz) (yl ob1)))) (yn ob27 (yn ob48 (yn ob95 (yn (ob181 P) (yl ob1) yz) (yn (ob271 P) (yl ob452) yz)) (yn ob135 (yn ob227 (yl ob5) yz) (yl (ob317 P)))) (yn ob72 (yn ob29 (yn ob204 (yl ob385) yz) (yn (ob294 P) (yl ob474) yz)) (yn ob158 (yn ob55 (yl ob429) yz) (yl ob55))))) (yn ob1 (yn ob22 (yn ob1 (yn ob87 (yn ob5 (yl (ob357 P)) yz) (yn (ob265 P) (yl (ob447 P)) yz)) (yn ob1 (yn ob219 (yl ob29) yz) (yl ob311))) (yn ob65 (yn ob110 (yn ob1 (yl ob380) yz) (yn ob288 (yl ob469) yz)) (yn ob153 (yn ob242 (yl (ob424 P)) yz) (yl ob334)))) (yn ob33 (yn ob29 (yn ob100 (yn (ob187 P) (yl ob1) yz) (yn ob276 (yl ob1) yz)) (yn ob143 (yn ob232 (yl ob411) yz) (yl ob322))) (yn ob1 (yn ob5 (yn ob209 (yl ob390) yz) (yn ob299 (yl ob479) yz)) (yn ob55 (yn ob1 (yl ob1) yz) (yl ob1)))))))) (yn (boot_o_2 P) (yn (boot_o_4 P) (yn (boot_o_8 P) (yn ob5 (yn ob1 (yn ob5 (yn ob80 (yn ob1 (yl ob1) yz) (yn ob1 (yl ob436) yz)) (yn ob123 (yn ob212 (yl ob391) yz) (yn ob301 (yl ob482) yz))) (yn ob57 (yn ob5 (yn ob189 (yl ob370) yz) (yn ob278 (yl ob459) yz)) (yn ob29 (yn ob5 (yl ob413) yz) (yl ob324)))) (yn ob24 (yn ob1 (yn ob90 (yn ob176 (yl ob360) yz) (yn ob268 (yl ob449) yz)) (yn ob133 (yn ob222 (yl ob403) yz) (yl ob314))) (yn ob67 (yn ob113 (yn ob199 (yl ob29) yz) (yn ob291 (yl ob472) yz)) (yn ob154 (yn ob245 (yl ob426) yz) (yl ob337))))) (yn ob10 (yn ob19 (yn ob39 (yn ob85 (yn ob1 (yl ob352) yz) (yn ob260 (yl ob444) yz)) (yn ob128 (yn ob1 (yl ob398) yz) (yn ob306 (yl ob490) yz))) (yn ob62 (yn ob106 (yn ob194 (yl ob375) yz) (yn ob283 (yl ob467) yz)) (yn ob5 (yn ob238 (yl ob421) yz) (yl ob329)))) (yn ob29 (yn ob51 (yn ob29 (yn ob184 (yl ob365) yz) (yn ob273 (yl ob454) yz)) (yn ob138 (yn ob29 (yl ob408) yz) (yl ob319))) (yn ob75 (yn ob118 (yn ob207 (yl ob5) yz) (yn ob296 (yl ob1) yz)) (yn ob161 (yn ob1 (yl ob431) yz) (yl ob1)))))) (yn ob563 (yn ob8 (yn ob1 (yn ob37 (yn ob82 (yn ob170 (yl ob1) yz) (yn ob1 (yl ob440) yz)) (yn ob5 (yn ob1 (yl ob394) yz) (yn ob303 (yl ob486) yz))) (yn ob1 (yn ob104 (yn ob5 (yl ob1) yz) (yn ob280 (yl ob463) yz)) (yn ob147 (yn ob236 (yl (ob417 P)) yz) (yl ob326)))) (yn ob26 (yn ob47 (yn ob94 (yn ob180 (yl (ob362 P)) yz) (yn ob29 (yl ob5) yz)) (yn ob1 (yn ob226 (yl ob1) yz) (yl ob29))) (yn (ob71 P) (yn ob55 (yn ob203 (yl ob384) yz) (yn ob29 (yl ob1) yz)) (yn ob157 (yn ob249 (yl ob5) yz) (yl ob341))))) (yn ob13 (yn ob5 (yn ob42 (yn ob1 (yn ob1 (yl ob356) yz) (yn ob264 (yl ob29) yz)) (yn ob130 (yn ob218 (yl ob55) yz) (yl ob310))) (yn ob5 (yn ob109 (yn ob196 (yl ob379) yz) (yn ob287 (yl ob1) yz)) (yn ob152 (yn ob241 (yl ob29) yz) (yl ob333)))) (yn ob32 (yn ob55 (yn ob99 (yn ob29 (yl ob367) yz) (yn ob5 (yl ob456) yz)) (yn ob142 (yn ob231 (yl ob5) yz) (yl ob5))) (yn (ob77 P) (yn ob1 (yn ob1 (yl ob389) yz) (yn ob5 (yl ob478) yz)) (yn ob165 (yn ob254 (yl ob433) yz) (yl ob346))))))) (yn (boot_o_6 P) (yn (boot_o_10 P) (yn ob1 (yn ob16 (yn ob1 (yn ob1 (yn ob168 (yl ob349) yz) (yn ob257 (yl ob438) yz)) (yn ob125 (yn ob5 (yl ob392) yz) (yn ob1 (yl ob484) yz))) (yn ob59 (yn ob1 (yn ob191 (yl ob5) yz) (yn ob1 (yl ob461) yz)) (yn ob1 (yn ob1 (yl ob415) yz) (yl ob1)))) (yn ob1 (yn ob45 (yn (ob92 P) (yn ob178 (yl ob55) yz) (yn ob270 (yl ob451) yz)) (yn ob5 (yn ob224 (yl ob405) yz) (yl ob316))) (yn ob69 (yn ob115 (yn ob201 (yl ob1) yz) (yn ob293 (yl ob5) yz)) (yn ob155 (yn ob247 (yl ob428) yz) (yl ob339))))) (yn ob11 (yn ob21 (yn ob40 (yn ob5 (yn ob173 (yl ob354) yz) (yn ob262 (yl ob446) yz)) (yn ob1 (yn ob217 (yl ob400) yz) (yl ob308))) (yn ob64 (yn ob107 (yn ob1 (yl (ob377 P)) yz) (yn ob285 (yl ob29) yz)) (yn ob1 (yn ob239 (yl ob423) yz) (yl ob331)))) (yn ob1 (yn ob53 (yn ob1 (yn ob186 (yl ob1) yz) (yn ob275 (yl ob1) yz)) (yn (ob140 P) (yn ob1 (yl ob410) yz) (yl ob321))) (yn ob55 (yn ob120 (yn ob29 (yl ob1) yz) (yn ob298 (yl ob477) yz)) (yn ob163 (yn ob252 (yl ob1) yz) (yl ob344)))))) (yn ob4 (yn ob1 (yn ob18 (yn ob1 (yn ob83 (yn ob5 (yl ob351) yz) (yn ob259 (yl ob442) yz)) (yn ob1 (yn ob215 (yl ob396) yz) (yn ob304 (yl ob488) yz))) (yn ob61 (yn ob1 (yn ob1 (yl ob373) yz) (yn ob281 (yl ob465) yz)) (yn ob149 (yn ob1 (yl ob419) yz) (yl ob327)))) (yn ob28 (yn (ob49 P) (yn ob96 (yn ob182 (yl ob363) yz) (yn ob1 (yl ob1) yz)) (yn ob136 (yn ob228 (yl ob407) yz) (yl ob1))) (yn ob73 (yn (ob117 P) (yn ob205 (yl ob386) yz) (yn ob1 (yl ob475) yz)) (yn ob159 (yn ob29 (yl ob1) yz) (yl ob29))))) (yn ob5 (yn ob1 (yn ob5 (yn ob88 (yn ob175 (yl ob358) yz) (yn ob266 (yl ob1) yz)) (yn ob131 (yn ob220 (yl (ob402 P)) yz) (yl ob312))) (yn ob1 (yn ob111 (yn ob197 (yl ob381) yz) (yn ob289 (yl ob470) yz)) (yn ob1 (yn ob243 (yl ob1) yz) (yl ob335)))) (yn ob34 (yn (ob56 P) (yn ob101 (yn ob1 (yl ob368) yz) (yn ob1 (yl ob457) yz)) (yn ob144 (yn ob233 (yl ob1) yz) (yl ob1))) (yn ob78 (yn ob122 (yn ob210 (yl ob1) yz) (yn ob1 (yl ob480) yz)) (yn ob29 (yn ob5 (yl ob434) yz) (yl ob5)))))))))
noncomputable def t849 (P : Params) : BT := (yn (boot_o_0 P) (yn (boot_o_1 P) (yn (ob564 P) (yn (boot_o_7 P) (yn ob1 (yn ob14 (yn ob1 (yn ob79 (yn (ob166 P) (yl ob347) yz) (yn ob255 (yl ob435) yz)) (yn ob1 (yn ob211 (yl ob5) yz) (yn ob300 (yl ob481) yz))) (yn ob1 (yn ob1 (yn ob188 (yl ob369) yz) (yn ob277 (yl ob458) yz)) (yn ob55 (yn ob1 (yl ob412) yz) (yn ob323 (yl ob501) yz)))) (yn ob23 (yn ob43 (yn ob89 (yn ob1 (yl ob359) yz) (yn ob267 (yl ob448) yz)) (yn ob132 (yn ob221 (yl ob1) yz) (yn ob313 (yl ob493) yz))) (yn ob66 (yn (ob112 P) (yn ob198 (yl ob55) yz) (yn ob290 (yl ob471) yz)) (yn ob5 (yn (ob244 P) (yl ob425) yz) (yl ob336))))) (yn ob5 (yn ob1 (yn ob5 (yn ob84 (yn ob171 (yl ob1) yz) (yn ob1 (yl ob443) yz)) (yn ob127 (yn ob216 (yl (ob397 P)) yz) (yn ob305 (yl ob489) yz))) (yn ob1 (yn ob5 (yn ob193 (yl ob374) yz) (yn ob282 (yl ob466) yz)) (yn ob1 (yn ob5 (yl ob420) yz) (yn ob328 (yl ob1) yz)))) (yn ob1 (yn ob50 (yn ob55 (yn ob183 (yl ob364) yz) (yn ob272 (yl ob453) yz)) (yn ob137 (yn ob55 (yl ob1) yz) (yn ob318 (yl ob497) yz))) (yn ob74 (yn ob1 (yn ob206 (yl ob1) yz) (yn ob295 (yl ob476) yz)) (yn (ob160 P) (yn (ob250 P) (yl ob430) yz) (yl (ob342 P))))))) (yn ob1 (yn ob7 (yn ob17 (yn ob36 (yn ob5 (yn ob169 (yl ob350) yz) (yn ob258 (yl (ob439 P)) yz)) (yn ob1 (yn ob213 (yl ob393) yz) (yn ob5 (yl ob485) yz))) (yn ob60 (yn ob103 (yn ob1 (yl ob371) yz) (yn ob5 (yl (ob462 P)) yz)) (yn ob146 (yn ob235 (yl ob416) yz) (yn ob5 (yl ob1) yz)))) (yn ob5 (yn ob46 (yn ob93 (yn ob179 (yl ob29) yz) (yn ob55 (yl ob1) yz)) (yn ob134 (yn ob225 (yl ob406) yz) (yn ob55 (yl ob5) yz))) (yn ob70 (yn ob116 (yn (ob202 P) (yl ob383) yz) (yn ob55 (yl ob473) yz)) (yn ob156 (yn ob248 (yl ob1) yz) (yl ob340))))) (yn ob12 (yn ob1 (yn ob41 (yn ob86 (yn ob174 (yl ob355) yz) (yn ob263 (yl ob55) yz)) (yn ob5 (yn ob1 (yl ob401) yz) (yn (ob309 P) (yl ob5) yz))) (yn ob1 (yn ob108 (yn ob5 (yl ob378) yz) (yn (ob286 P) (yl (ob468 P)) yz)) (yn ob151 (yn ob240 (yl ob55) yz) (yn (ob332 P) (yl ob505) yz)))) (yn ob31 (yn ob54 (yn ob98 (yn ob55 (yl ob5) yz) (yn ob1 (yl ob5) yz)) (yn ob141 (yn ob230 (yl ob1) yz) (yn ob1 (yl ob1) yz))) (yn ob29 (yn ob121 (yn (ob208 P) (yl ob388) yz) (yn ob1 (yl ob1) yz)) (yn ob164 (yn ob253 (yl ob5) yz) (yl ob345))))))) (yn (boot_o_5 P) (yn (boot_o_9 P) (yn ob6 (yn ob15 (yn ob35 (yn ob81 (yn ob167 (yl ob348) yz) (yn ob256 (yl ob437) yz)) (yn ob124 (yn ob1 (yl ob1) yz) (yn ob302 (yl (ob483 P)) yz))) (yn ob58 (yn ob102 (yn ob190 (yl ob1) yz) (yn ob279 (yl ob460) yz)) (yn (ob145 P) (yn ob234 (yl ob414) yz) (yn ob325 (yl ob5) yz)))) (yn ob25 (yn ob44 (yn ob91 (yn ob177 (yl ob361) yz) (yn ob269 (yl ob450) yz)) (yn ob1 (yn (ob223 P) (yl ob404) yz) (yn ob315 (yl ob495) yz))) (yn ob68 (yn ob114 (yn ob200 (yl (ob382 P)) yz) (yn ob292 (yl ob1) yz)) (yn ob1 (yn ob246 (yl ob427) yz) (yl ob338))))) (yn ob1 (yn ob20 (yn ob1 (yn ob1 (yn ob172 (yl ob353) yz) (yn ob261 (yl ob445) yz)) (yn ob129 (yn ob5 (yl ob399) yz) (yn ob307 (yl (ob491 P)) yz))) (yn ob63 (yn ob1 (yn ob195 (yl ob376) yz) (yn ob284 (yl ob55) yz)) (yn ob150 (yn ob1 (yl ob422) yz) (yn ob330 (yl ob1) yz)))) (yn (ob30 P) (yn ob52 (yn (ob97 P) (yn ob185 (yl ob366) yz) (yn ob274 (yl ob455) yz)) (yn ob139 (yn (ob229 P) (yl ob409) yz) (yn ob320 (yl ob1) yz))) (yn ob76 (yn ob119 (yn ob55 (yl ob387) yz) (yn ob297 (yl ob5) yz)) (yn ob162 (yn ob251 (yl ob432) yz) (yl ob343)))))) (yn ob3 (yn ob9 (yn ob5 (yn ob38 (yn ob1 (yn ob1 (yl ob5) yz) (yn ob5 (yl ob441) yz)) (yn ob126 (yn ob214 (yl ob395) yz) (yn ob1 (yl ob487) yz))) (yn ob5 (yn ob105 (yn ob192 (yl ob372) yz) (yn ob1 (yl ob464) yz)) (yn ob148 (yn ob237 (yl ob418) yz) (yn ob1 (yl ob503) yz)))) (yn ob27 (yn ob48 (yn ob95 (yn (ob181 P) (yl ob1) yz) (yn (ob271 P) (yl ob452) yz)) (yn ob135 (yn ob227 (yl ob5) yz) (yn (ob317 P) (yl ob1) yz))) (yn ob72 (yn ob29 (yn ob204 (yl ob385) yz) (yn (ob294 P) (yl ob474) yz)) (yn ob158 (yn ob55 (yl ob429) yz) (yl ob55))))) (yn ob1 (yn ob22 (yn ob1 (yn ob87 (yn ob5 (yl (ob357 P)) yz) (yn (ob265 P) (yl (ob447 P)) yz)) (yn ob1 (yn ob219 (yl ob29) yz) (yn ob311 (yl ob1) yz))) (yn ob65 (yn ob110 (yn ob1 (yl ob380) yz) (yn ob288 (yl ob469) yz)) (yn ob153 (yn ob242 (yl (ob424 P)) yz) (yn ob334 (yl ob507) yz)))) (yn ob33 (yn ob29 (yn ob100 (yn (ob187 P) (yl ob1) yz) (yn ob276 (yl ob1) yz)) (yn ob143 (yn ob232 (yl ob411) yz) (yn ob322 (yl ob499) yz))) (yn ob1 (yn ob5 (yn ob209 (yl ob390) yz) (yn ob299 (yl ob479) yz)) (yn ob55 (yn ob1 (yl ob1) yz) (yl ob1)))))))) (yn (boot_o_2 P) (yn (boot_o_4 P) (yn (boot_o_8 P) (yn ob5 (yn ob1 (yn ob5 (yn ob80 (yn ob1 (yl ob1) yz) (yn ob1 (yl ob436) yz)) (yn ob123 (yn ob212 (yl ob391) yz) (yn ob301 (yl ob482) yz))) (yn ob57 (yn ob5 (yn ob189 (yl ob370) yz) (yn ob278 (yl ob459) yz)) (yn ob29 (yn ob5 (yl ob413) yz) (yn ob324 (yl ob1) yz)))) (yn ob24 (yn ob1 (yn ob90 (yn ob176 (yl ob360) yz) (yn ob268 (yl ob449) yz)) (yn ob133 (yn ob222 (yl ob403) yz) (yn ob314 (yl ob494) yz))) (yn ob67 (yn ob113 (yn ob199 (yl ob29) yz) (yn ob291 (yl ob472) yz)) (yn ob154 (yn ob245 (yl ob426) yz) (yl ob337))))) (yn ob10 (yn ob19 (yn ob39 (yn ob85 (yn ob1 (yl ob352) yz) (yn ob260 (yl ob444) yz)) (yn ob128 (yn ob1 (yl ob398) yz) (yn ob306 (yl ob490) yz))) (yn ob62 (yn ob106 (yn ob194 (yl ob375) yz) (yn ob283 (yl ob467) yz)) (yn ob5 (yn ob238 (yl ob421) yz) (yn ob329 (yl ob5) yz)))) (yn ob29 (yn ob51 (yn ob29 (yn ob184 (yl ob365) yz) (yn ob273 (yl ob454) yz)) (yn ob138 (yn ob29 (yl ob408) yz) (yn ob319 (yl ob498) yz))) (yn ob75 (yn ob118 (yn ob207 (yl ob5) yz) (yn ob296 (yl ob1) yz)) (yn ob161 (yn ob1 (yl ob431) yz) (yl ob1)))))) (yn ob565 (yn ob8 (yn ob1 (yn ob37 (yn ob82 (yn ob170 (yl ob1) yz) (yn ob1 (yl ob440) yz)) (yn ob5 (yn ob1 (yl ob394) yz) (yn ob303 (yl ob486) yz))) (yn ob1 (yn ob104 (yn ob5 (yl ob1) yz) (yn ob280 (yl ob463) yz)) (yn ob147 (yn ob236 (yl (ob417 P)) yz) (yn ob326 (yl ob502) yz)))) (yn ob26 (yn ob47 (yn ob94 (yn ob180 (yl (ob362 P)) yz) (yn ob29 (yl ob5) yz)) (yn ob1 (yn ob226 (yl ob1) yz) (yn ob29 (yl ob1) yz))) (yn (ob71 P) (yn ob55 (yn ob203 (yl ob384) yz) (yn ob29 (yl ob1) yz)) (yn ob157 (yn ob249 (yl ob5) yz) (yl ob341))))) (yn ob13 (yn ob5 (yn ob42 (yn ob1 (yn ob1 (yl ob356) yz) (yn ob264 (yl ob29) yz)) (yn ob130 (yn ob218 (yl ob55) yz) (yn ob310 (yl ob1) yz))) (yn ob5 (yn ob109 (yn ob196 (yl ob379) yz) (yn ob287 (yl ob1) yz)) (yn ob152 (yn ob241 (yl ob29) yz) (yn ob333 (yl ob506) yz)))) (yn ob32 (yn ob55 (yn ob99 (yn ob29 (yl ob367) yz) (yn ob5 (yl ob456) yz)) (yn ob142 (yn ob231 (yl ob5) yz) (yn ob5 (yl ob1) yz))) (yn (ob77 P) (yn ob1 (yn ob1 (yl ob389) yz) (yn ob5 (yl ob478) yz)) (yn ob165 (yn ob254 (yl ob433) yz) (yl ob346))))))) (yn (boot_o_6 P) (yn (boot_o_10 P) (yn ob1 (yn ob16 (yn ob1 (yn ob1 (yn ob168 (yl ob349) yz) (yn ob257 (yl ob438) yz)) (yn ob125 (yn ob5 (yl ob392) yz) (yn ob1 (yl ob484) yz))) (yn ob59 (yn ob1 (yn ob191 (yl ob5) yz) (yn ob1 (yl ob461) yz)) (yn ob1 (yn ob1 (yl ob415) yz) (yn ob1 (yl ob1) yz)))) (yn ob1 (yn ob45 (yn (ob92 P) (yn ob178 (yl ob55) yz) (yn ob270 (yl ob451) yz)) (yn ob5 (yn ob224 (yl ob405) yz) (yn ob316 (yl ob1) yz))) (yn ob69 (yn ob115 (yn ob201 (yl ob1) yz) (yn ob293 (yl ob5) yz)) (yn ob155 (yn ob247 (yl ob428) yz) (yl ob339))))) (yn ob11 (yn ob21 (yn ob40 (yn ob5 (yn ob173 (yl ob354) yz) (yn ob262 (yl ob446) yz)) (yn ob1 (yn ob217 (yl ob400) yz) (yn ob308 (yl ob1) yz))) (yn ob64 (yn ob107 (yn ob1 (yl (ob377 P)) yz) (yn ob285 (yl ob29) yz)) (yn ob1 (yn ob239 (yl ob423) yz) (yn ob331 (yl ob1) yz)))) (yn ob1 (yn ob53 (yn ob1 (yn ob186 (yl ob1) yz) (yn ob275 (yl ob1) yz)) (yn (ob140 P) (yn ob1 (yl ob410) yz) (yn ob321 (yl ob5) yz))) (yn ob55 (yn ob120 (yn ob29 (yl ob1) yz) (yn ob298 (yl ob477) yz)) (yn ob163 (yn ob252 (yl ob1) yz) (yl ob344)))))) (yn ob4 (yn ob1 (yn ob18 (yn ob1 (yn ob83 (yn ob5 (yl ob351) yz) (yn ob259 (yl ob442) yz)) (yn ob1 (yn ob215 (yl ob396) yz) (yn ob304 (yl ob488) yz))) (yn ob61 (yn ob1 (yn ob1 (yl ob373) yz) (yn ob281 (yl ob465) yz)) (yn ob149 (yn ob1 (yl ob419) yz) (yn ob327 (yl ob504) yz)))) (yn ob28 (yn (ob49 P) (yn ob96 (yn ob182 (yl ob363) yz) (yn ob1 (yl ob1) yz)) (yn ob136 (yn ob228 (yl ob407) yz) (yn ob1 (yl ob496) yz))) (yn ob73 (yn (ob117 P) (yn ob205 (yl ob386) yz) (yn ob1 (yl ob475) yz)) (yn ob159 (yn ob29 (yl ob1) yz) (yl ob29))))) (yn ob5 (yn ob1 (yn ob5 (yn ob88 (yn ob175 (yl ob358) yz) (yn ob266 (yl ob1) yz)) (yn ob131 (yn ob220 (yl (ob402 P)) yz) (yn ob312 (yl ob492) yz))) (yn ob1 (yn ob111 (yn ob197 (yl ob381) yz) (yn ob289 (yl ob470) yz)) (yn ob1 (yn ob243 (yl ob1) yz) (yl ob335)))) (yn ob34 (yn (ob56 P) (yn ob101 (yn ob1 (yl ob368) yz) (yn ob1 (yl ob457) yz)) (yn ob144 (yn ob233 (yl ob1) yz) (yn ob1 (yl ob500) yz))) (yn ob78 (yn ob122 (yn ob210 (yl ob1) yz) (yn ob1 (yl ob480) yz)) (yn ob29 (yn ob5 (yl ob434) yz) (yl ob5)))))))))
noncomputable def t940 (P : Params) : BT := (yn (boot_o_0 P) (yn (boot_o_1 P) (yn (ob0 P) (yn (boot_o_7 P) (yn ob1 (yn ob14 (yn ob1 (yn ob79 (yn (ob166 P) (yl ob347) (yl ob1)) (yn ob255 (yl ob435) yz)) (yn ob1 (yn ob211 (yl ob5) (yl ob5)) (yn ob300 (yl ob481) yz))) (yn ob1 (yn ob1 (yn ob188 (yl ob369) (yl ob534)) (yn ob277 (yl ob458) yz)) (yn ob55 (yn ob1 (yl ob412) yz) (yn ob323 (yl ob501) yz)))) (yn ob23 (yn ob43 (yn ob89 (yn ob1 (yl ob359) (yl ob1)) (yn ob267 (yl ob448) yz)) (yn ob132 (yn ob221 (yl ob1) yz) (yn ob313 (yl ob493) yz))) (yn ob66 (yn (ob112 P) (yn ob198 (yl ob55) (yl ob544)) (yn ob290 (yl ob471) yz)) (yn ob5 (yn (ob244 P) (yl ob425) yz) (yn ob336 (yl ob5) yz))))) (yn ob5 (yn ob1 (yn ob5 (yn ob84 (yn ob171 (yl ob1) (yl ob520)) (yn ob1 (yl ob443) yz)) (yn ob127 (yn ob216 (yl (ob397 P)) yz) (yn ob305 (yl ob489) yz))) (yn ob1 (yn ob5 (yn ob193 (yl ob374) (yl ob539)) (yn ob282 (yl ob466) yz)) (yn ob1 (yn ob5 (yl ob420) yz) (yn ob328 (yl ob1) yz)))) (yn ob1 (yn ob50 (yn ob55 (yn ob183 (yl ob364) (yl ob5)) (yn ob272 (yl ob453) yz)) (yn ob137 (yn ob55 (yl ob1) yz) (yn ob318 (yl ob497) yz))) (yn ob74 (yn ob1 (yn ob206 (yl ob1) (yl ob1)) (yn ob295 (yl ob476) yz)) (yn (ob160 P) (yn (ob250 P) (yl ob430) yz) (yn (ob342 P) (yl ob511) yz)))))) (yn ob1 (yn ob7 (yn ob17 (yn ob36 (yn ob5 (yn ob169 (yl ob350) (yl ob1)) (yn ob258 (yl (ob439 P)) yz)) (yn ob1 (yn ob213 (yl ob393) yz) (yn ob5 (yl ob485) yz))) (yn ob60 (yn ob103 (yn ob1 (yl ob371) (yl ob537)) (yn ob5 (yl (ob462 P)) yz)) (yn ob146 (yn ob235 (yl ob416) yz) (yn ob5 (yl ob1) yz)))) (yn ob5 (yn ob46 (yn ob93 (yn ob179 (yl ob29) (yl ob527)) (yn ob55 (yl ob1) yz)) (yn ob134 (yn ob225 (yl ob406) yz) (yn ob55 (yl ob5) yz))) (yn ob70 (yn ob116 (yn (ob202 P) (yl ob383) (yl ob1)) (yn ob55 (yl ob473) yz)) (yn ob156 (yn ob248 (yl ob1) yz) (yn ob340 (yl ob509) yz))))) (yn ob12 (yn ob1 (yn ob41 (yn ob86 (yn ob174 (yl ob355) (yl ob5)) (yn ob263 (yl ob55) yz)) (yn ob5 (yn ob1 (yl ob401) yz) (yn (ob309 P) (yl ob5) yz))) (yn ob1 (yn ob108 (yn ob5 (yl ob378) (yl ob541)) (yn (ob286 P) (yl (ob468 P)) yz)) (yn ob151 (yn ob240 (yl ob55) yz) (yn (ob332 P) (yl ob505) yz)))) (yn ob31 (yn ob54 (yn ob98 (yn ob55 (yl ob5) (yl ob532)) (yn ob1 (yl ob5) yz)) (yn ob141 (yn ob230 (yl ob1) yz) (yn ob1 (yl ob1) yz))) (yn ob29 (yn ob121 (yn (ob208 P) (yl ob388) (yl ob550)) (yn ob1 (yl ob1) yz)) (yn ob164 (yn ob253 (yl ob5) yz) (yn ob345 (yl ob514) yz))))))) (yn (boot_o_5 P) (yn (boot_o_9 P) (yn ob6 (yn ob15 (yn ob35 (yn ob81 (yn ob167 (yl ob348) (yl ob517)) (yn ob256 (yl ob437) yz)) (yn ob124 (yn ob1 (yl ob1) (yl ob554)) (yn ob302 (yl (ob483 P)) yz))) (yn ob58 (yn ob102 (yn ob190 (yl ob1) (yl ob535)) (yn ob279 (yl ob460) yz)) (yn (ob145 P) (yn ob234 (yl ob414) yz) (yn ob325 (yl ob5) yz)))) (yn ob25 (yn ob44 (yn ob91 (yn ob177 (yl ob361) (yl ob526)) (yn ob269 (yl ob450) yz)) (yn ob1 (yn (ob223 P) (yl ob404) yz) (yn ob315 (yl ob495) yz))) (yn ob68 (yn ob114 (yn ob200 (yl (ob382 P)) (yl ob5)) (yn ob292 (yl ob1) yz)) (yn ob1 (yn ob246 (yl ob427) yz) (yn ob338 (yl ob1) yz))))) (yn ob1 (yn ob20 (yn ob1 (yn ob1 (yn ob172 (yl ob353) (yl ob522)) (yn ob261 (yl ob445) yz)) (yn ob129 (yn ob5 (yl ob399) yz) (yn ob307 (yl (ob491 P)) yz))) (yn ob63 (yn ob1 (yn ob195 (yl ob376) (yl ob1)) (yn ob284 (yl ob55) yz)) (yn ob150 (yn ob1 (yl ob422) yz) (yn ob330 (yl ob1) yz)))) (yn (ob30 P) (yn ob52 (yn (ob97 P) (yn ob185 (yl ob366) (yl ob1)) (yn ob274 (yl ob455) yz)) (yn ob139 (yn (ob229 P) (yl ob409) yz) (yn ob320 (yl ob1) yz))) (yn ob76 (yn ob119 (yn ob55 (yl ob387) (yl ob549)) (yn ob297 (yl ob5) yz)) (yn ob162 (yn ob251 (yl ob432) yz) (yn ob343 (yl ob512) yz)))))) (yn ob3 (yn ob9 (yn ob5 (yn ob38 (yn ob1 (yn ob1 (yl ob5) (yl ob519)) (yn ob5 (yl ob441) yz)) (yn ob126 (yn ob214 (yl ob395) yz) (yn ob1 (yl ob487) yz))) (yn ob5 (yn ob105 (yn ob192 (yl ob372) (yl ob5)) (yn ob1 (yl ob464) yz)) (yn ob148 (yn ob237 (yl ob418) yz) (yn ob1 (yl ob503) yz)))) (yn ob27 (yn ob48 (yn ob95 (yn (ob181 P) (yl ob1) (yl ob529)) (yn (ob271 P) (yl ob452) yz)) (yn ob135 (yn ob227 (yl ob5) yz) (yn (ob317 P) (yl ob1) yz))) (yn ob72 (yn ob29 (yn ob204 (yl ob385) (yl ob547)) (yn (ob294 P) (yl ob474) yz)) (yn ob158 (yn ob55 (yl ob429) yz) (yn ob55 (yl ob1) yz))))) (yn ob1 (yn ob22 (yn ob1 (yn ob87 (yn ob5 (yl (ob357 P)) (yl ob524)) (yn (ob265 P) (yl (ob447 P)) yz)) (yn ob1 (yn ob219 (yl ob29) yz) (yn ob311 (yl ob1) yz))) (yn ob65 (yn ob110 (yn ob1 (yl ob380) (yl ob542)) (yn ob288 (yl ob469) yz)) (yn ob153 (yn ob242 (yl (ob424 P)) yz) (yn ob334 (yl ob507) yz)))) (yn ob33 (yn ob29 (yn ob100 (yn (ob187 P) (yl ob1) (yl ob1)) (yn ob276 (yl ob1) yz)) (yn ob143 (yn ob232 (yl ob411) yz) (yn ob322 (yl ob499) yz))) (yn ob1 (yn ob5 (yn ob209 (yl ob390) (yl ob552)) (yn ob299 (yl ob479) yz)) (yn ob55 (yn ob1 (yl ob1) yz) (yn ob1 (yl ob5) yz)))))))) (yn (boot_o_2 P) (yn (boot_o_4 P) (yn (boot_o_8 P) (yn ob5 (yn ob1 (yn ob5 (yn ob80 (yn ob1 (yl ob1) (yl ob516)) (yn ob1 (yl ob436) yz)) (yn ob123 (yn ob212 (yl ob391) (yl ob553)) (yn ob301 (yl ob482) yz))) (yn ob57 (yn ob5 (yn ob189 (yl ob370) (yl ob1)) (yn ob278 (yl ob459) yz)) (yn ob29 (yn ob5 (yl ob413) yz) (yn ob324 (yl ob1) yz)))) (yn ob24 (yn ob1 (yn ob90 (yn ob176 (yl ob360) (yl ob5)) (yn ob268 (yl ob449) yz)) (yn ob133 (yn ob222 (yl ob403) yz) (yn ob314 (yl ob494) yz))) (yn ob67 (yn ob113 (yn ob199 (yl ob29) (yl ob1)) (yn ob291 (yl ob472) yz)) (yn ob154 (yn ob245 (yl ob426) yz) (yn ob337 (yl ob1) yz))))) (yn ob10 (yn ob19 (yn ob39 (yn ob85 (yn ob1 (yl ob352) (yl ob521)) (yn ob260 (yl ob444) yz)) (yn ob128 (yn ob1 (yl ob398) yz) (yn ob306 (yl ob490) yz))) (yn ob62 (yn ob106 (yn ob194 (yl ob375) (yl ob540)) (yn ob283 (yl ob467) yz)) (yn ob5 (yn ob238 (yl ob421) yz) (yn ob329 (yl ob5) yz)))) (yn ob29 (yn ob51 (yn ob29 (yn ob184 (yl ob365) (yl ob530)) (yn ob273 (yl ob454) yz)) (yn ob138 (yn ob29 (yl ob408) yz) (yn ob319 (yl ob498) yz))) (yn ob75 (yn ob118 (yn ob207 (yl ob5) (yl ob5)) (yn ob296 (yl ob1) yz)) (yn ob161 (yn ob1 (yl ob431) yz) (yn ob1 (yl ob1) yz)))))) (yn ob2 (yn ob8 (yn ob1 (yn ob37 (yn ob82 (yn ob170 (yl ob1) (yl ob5)) (yn ob1 (yl ob440) yz)) (yn ob5 (yn ob1 (yl ob394) yz) (yn ob303 (yl ob486) yz))) (yn ob1 (yn ob104 (yn ob5 (yl ob1) (yl ob1)) (yn ob280 (yl ob463) yz)) (yn ob147 (yn ob236 (yl (ob417 P)) yz) (yn ob326 (yl ob502) yz)))) (yn ob26 (yn ob47 (yn ob94 (yn ob180 (yl (ob362 P)) (yl ob528)) (yn ob29 (yl ob5) yz)) (yn ob1 (yn ob226 (yl ob1) yz) (yn ob29 (yl ob1) yz))) (yn (ob71 P) (yn ob55 (yn ob203 (yl ob384) (yl ob546)) (yn ob29 (yl ob1) yz)) (yn ob157 (yn ob249 (yl ob5) yz) (yn ob341 (yl ob510) yz))))) (yn ob13 (yn ob5 (yn ob42 (yn ob1 (yn ob1 (yl ob356) (yl ob523)) (yn ob264 (yl ob29) yz)) (yn ob130 (yn ob218 (yl ob55) yz) (yn ob310 (yl ob1) yz))) (yn ob5 (yn ob109 (yn ob196 (yl ob379) (yl ob1)) (yn ob287 (yl ob1) yz)) (yn ob152 (yn ob241 (yl ob29) yz) (yn ob333 (yl ob506) yz)))) (yn ob32 (yn ob55 (yn ob99 (yn ob29 (yl ob367) (yl ob533)) (yn ob5 (yl ob456) yz)) (yn ob142 (yn ob231 (yl ob5) yz) (yn ob5 (yl ob1) yz))) (yn (ob77 P) (yn ob1 (yn ob1 (yl ob389) (yl ob551)) (yn ob5 (yl ob478) yz)) (yn ob165 (yn ob254 (yl ob433) yz) (yn ob346 (yl ob1) yz))))))) (yn (boot_o_6 P) (yn (boot_o_10 P) (yn ob1 (yn ob16 (yn ob1 (yn ob1 (yn ob168 (yl ob349) (yl ob518)) (yn ob257 (yl ob438) yz)) (yn ob125 (yn ob5 (yl ob392) (yl ob555)) (yn ob1 (yl ob484) yz))) (yn ob59 (yn ob1 (yn ob191 (yl ob5) (yl ob536)) (yn ob1 (yl ob461) yz)) (yn ob1 (yn ob1 (yl ob415) yz) (yn ob1 (yl ob1) yz)))) (yn ob1 (yn ob45 (yn (ob92 P) (yn ob178 (yl ob55) (yl ob1)) (yn ob270 (yl ob451) yz)) (yn ob5 (yn ob224 (yl ob405) yz) (yn ob316 (yl ob1) yz))) (yn ob69 (yn ob115 (yn ob201 (yl ob1) (yl ob545)) (yn ob293 (yl ob5) yz)) (yn ob155 (yn ob247 (yl ob428) yz) (yn ob339 (yl ob508) yz))))) (yn ob11 (yn ob21 (yn ob40 (yn ob5 (yn ob173 (yl ob354) (yl ob1)) (yn ob262 (yl ob446) yz)) (yn ob1 (yn ob217 (yl ob400) yz) (yn ob308 (yl ob1) yz))) (yn ob64 (yn ob107 (yn ob1 (yl (ob377 P)) (yl ob5)) (yn ob285 (yl ob29) yz)) (yn ob1 (yn ob239 (yl ob423) yz) (yn ob331 (yl ob1) yz)))) (yn ob1 (yn ob53 (yn ob1 (yn ob186 (yl ob1) (yl ob531)) (yn ob275 (yl ob1) yz)) (yn (ob140 P) (yn ob1 (yl ob410) yz) (yn ob321 (yl ob5) yz))) (yn ob55 (yn ob120 (yn ob29 (yl ob1) (yl ob1)) (yn ob298 (yl ob477) yz)) (yn ob163 (yn ob252 (yl ob1) yz) (yn ob344 (yl ob513) yz)))))) (yn ob4 (yn ob1 (yn ob18 (yn ob1 (yn ob83 (yn ob5 (yl ob351) (yl ob1)) (yn ob259 (yl ob442) yz)) (yn ob1 (yn ob215 (yl ob396) yz) (yn ob304 (yl ob488) yz))) (yn ob61 (yn ob1 (yn ob1 (yl ob373) (yl ob538)) (yn ob281 (yl ob465) yz)) (yn ob149 (yn ob1 (yl ob419) yz) (yn ob327 (yl ob504) yz)))) (yn ob28 (yn (ob49 P) (yn ob96 (yn ob182 (yl ob363) (yl ob1)) (yn ob1 (yl ob1) yz)) (yn ob136 (yn ob228 (yl ob407) yz) (yn ob1 (yl ob496) yz))) (yn ob73 (yn (ob117 P) (yn ob205 (yl ob386) (yl ob548)) (yn ob1 (yl ob475) yz)) (yn ob159 (yn ob29 (yl ob1) yz) (yn ob29 (yl ob5) yz))))) (yn ob5 (yn ob1 (yn ob5 (yn ob88 (yn ob175 (yl ob358) (yl ob525)) (yn ob266 (yl ob1) yz)) (yn ob131 (yn ob220 (yl (ob402 P)) yz) (yn ob312 (yl ob492) yz))) (yn ob1 (yn ob111 (yn ob197 (yl ob381) (yl ob543)) (yn ob289 (yl ob470) yz)) (yn ob1 (yn ob243 (yl ob1) yz) (yn ob335 (yl ob1) yz)))) (yn ob34 (yn (ob56 P) (yn ob101 (yn ob1 (yl ob368) (yl ob5)) (yn ob1 (yl ob457) yz)) (yn ob144 (yn ob233 (yl ob1) yz) (yn ob1 (yl ob500) yz))) (yn ob78 (yn ob122 (yn ob210 (yl ob1) (yl ob1)) (yn ob1 (yl ob480) yz)) (yn ob29 (yn ob5 (yl ob434) yz) (yn ob5 (yl ob515) yz)))))))))
noncomputable def KF (P : Params) : Frag := (nat_lit 2, (boot_o_2 P)) :: (nat_lit 3, (ob0 P)) :: (nat_lit 15, ob1) :: (nat_lit 17, ob6) :: (nat_lit 18, ob1) :: (nat_lit 20, ob8) :: (nat_lit 21, ob9) :: (nat_lit 22, ob1) :: (nat_lit 24, ob10) :: (nat_lit 25, ob1) :: (nat_lit 27, ob12) :: (nat_lit 28, ob13) :: (nat_lit 29, ob1) :: (nat_lit 31, ob14) :: (nat_lit 32, ob1) :: (nat_lit 34, ob16) :: (nat_lit 35, ob17) :: (nat_lit 36, ob1) :: (nat_lit 38, ob18) :: (nat_lit 39, ob1) :: (nat_lit 41, ob20) :: (nat_lit 42, ob21) :: (nat_lit 43, ob1) :: (nat_lit 45, ob22) :: (nat_lit 46, ob1) :: (nat_lit 48, ob24) :: (nat_lit 49, ob25) :: (nat_lit 50, ob1) :: (nat_lit 53, ob27) :: (nat_lit 54, ob28) :: (nat_lit 62, ob34) :: (nat_lit 63, ob1) :: (nat_lit 65, ob35) :: (nat_lit 66, ob1) :: (nat_lit 68, ob37) :: (nat_lit 69, ob38) :: (nat_lit 70, ob1) :: (nat_lit 72, ob39) :: (nat_lit 73, ob1) :: (nat_lit 75, ob41) :: (nat_lit 76, ob42) :: (nat_lit 77, ob1) :: (nat_lit 79, ob43) :: (nat_lit 80, ob1) :: (nat_lit 82, ob45) :: (nat_lit 83, ob46) :: (nat_lit 84, ob47) :: (nat_lit 86, (ob49 P)) :: (nat_lit 87, ob50) :: (nat_lit 88, ob51) :: (nat_lit 89, ob52) :: (nat_lit 92, ob55) :: (nat_lit 99, ob60) :: (nat_lit 100, ob1) :: (nat_lit 102, ob61) :: (nat_lit 103, ob1) :: (nat_lit 105, ob63) :: (nat_lit 106, ob64) :: (nat_lit 107, ob1) :: (nat_lit 109, ob65) :: (nat_lit 110, ob1) :: (nat_lit 112, ob67) :: (nat_lit 113, ob68) :: (nat_lit 114, ob69) :: (nat_lit 116, (ob71 P)) :: (nat_lit 117, ob72) :: (nat_lit 118, ob73) :: (nat_lit 119, ob74) :: (nat_lit 122, ob55) :: (nat_lit 129, ob81) :: (nat_lit 130, ob1) :: (nat_lit 132, ob82) :: (nat_lit 133, ob1) :: (nat_lit 135, ob84) :: (nat_lit 136, ob85) :: (nat_lit 137, ob1) :: (nat_lit 139, ob86) :: (nat_lit 140, ob1) :: (nat_lit 142, ob88) :: (nat_lit 143, ob89) :: (nat_lit 144, ob90) :: (nat_lit 146, (ob92 P)) :: (nat_lit 147, ob93) :: (nat_lit 148, ob94) :: (nat_lit 151, ob55) :: (nat_lit 158, ob101) :: (nat_lit 159, ob1) :: (nat_lit 161, ob102) :: (nat_lit 162, ob1) :: (nat_lit 164, ob104) :: (nat_lit 165, ob105) :: (nat_lit 166, ob1) :: (nat_lit 168, ob106) :: (nat_lit 169, ob1) :: (nat_lit 171, ob108) :: (nat_lit 172, ob109) :: (nat_lit 173, ob110) :: (nat_lit 175, (ob112 P)) :: (nat_lit 176, ob113) :: (nat_lit 177, ob114) :: (nat_lit 180, ob55) :: (nat_lit 187, ob121) :: (nat_lit 188, ob1) :: (nat_lit 190, ob122) :: (nat_lit 191, ob1) :: (nat_lit 193, ob124) :: (nat_lit 194, ob125) :: (nat_lit 195, ob1) :: (nat_lit 197, ob126) :: (nat_lit 198, ob1) :: (nat_lit 200, ob128) :: (nat_lit 201, ob129) :: (nat_lit 202, ob1) :: (nat_lit 204, ob130) :: (nat_lit 205, ob1) :: (nat_lit 207, ob132) :: (nat_lit 208, ob133) :: (nat_lit 209, ob1) :: (nat_lit 211, ob134) :: (nat_lit 212, ob1) :: (nat_lit 214, ob136) :: (nat_lit 215, ob137) :: (nat_lit 216, ob138) :: (nat_lit 218, (ob140 P)) :: (nat_lit 219, ob141) :: (nat_lit 220, ob142) :: (nat_lit 223, ob55) :: (nat_lit 230, ob149) :: (nat_lit 231, ob1) :: (nat_lit 233, ob150) :: (nat_lit 234, ob1) :: (nat_lit 236, ob152) :: (nat_lit 237, ob153) :: (nat_lit 238, ob1) :: (nat_lit 240, ob154) :: (nat_lit 241, ob1) :: (nat_lit 243, ob156) :: (nat_lit 244, ob157) :: (nat_lit 245, ob158) :: (nat_lit 247, (ob160 P)) :: (nat_lit 248, ob161) :: (nat_lit 249, ob162) :: (nat_lit 250, ob163) :: (nat_lit 253, ob55) :: (nat_lit 260, ob170) :: (nat_lit 261, ob1) :: (nat_lit 263, ob171) :: (nat_lit 264, ob1) :: (nat_lit 266, ob173) :: (nat_lit 267, ob174) :: (nat_lit 268, ob1) :: (nat_lit 270, ob175) :: (nat_lit 271, ob1) :: (nat_lit 273, ob177) :: (nat_lit 274, ob178) :: (nat_lit 275, ob179) :: (nat_lit 277, (ob181 P)) :: (nat_lit 278, ob182) :: (nat_lit 279, ob183) :: (nat_lit 280, ob184) :: (nat_lit 283, ob55) :: (nat_lit 290, ob191) :: (nat_lit 291, ob1) :: (nat_lit 293, ob192) :: (nat_lit 294, ob1) :: (nat_lit 296, ob194) :: (nat_lit 297, ob195) :: (nat_lit 298, ob1) :: (nat_lit 300, ob196) :: (nat_lit 301, ob1) :: (nat_lit 303, ob198) :: (nat_lit 304, ob199) :: (nat_lit 305, ob200) :: (nat_lit 307, (ob202 P)) :: (nat_lit 308, ob203) :: (nat_lit 309, ob204) :: (nat_lit 310, ob205) :: (nat_lit 313, ob55) :: (nat_lit 320, ob212) :: (nat_lit 321, ob1) :: (nat_lit 323, ob213) :: (nat_lit 324, ob1) :: (nat_lit 326, ob215) :: (nat_lit 327, ob216) :: (nat_lit 328, ob1) :: (nat_lit 330, ob217) :: (nat_lit 331, ob1) :: (nat_lit 333, ob219) :: (nat_lit 334, ob220) :: (nat_lit 335, ob221) :: (nat_lit 337, (ob223 P)) :: (nat_lit 338, ob224) :: (nat_lit 339, ob225) :: (nat_lit 340, ob226) :: (nat_lit 343, ob55) :: (nat_lit 350, ob233) :: (nat_lit 351, ob1) :: (nat_lit 353, ob234) :: (nat_lit 354, ob1) :: (nat_lit 356, ob236) :: (nat_lit 357, ob237) :: (nat_lit 358, ob1) :: (nat_lit 360, ob238) :: (nat_lit 361, ob1) :: (nat_lit 363, ob240) :: (nat_lit 364, ob241) :: (nat_lit 365, ob242) :: (nat_lit 367, (ob244 P)) :: (nat_lit 368, ob245) :: (nat_lit 369, ob246) :: (nat_lit 370, ob247) :: (nat_lit 373, ob55) :: (nat_lit 380, ob254) :: (nat_lit 381, ob1) :: (nat_lit 383, ob255) :: (nat_lit 384, ob1) :: (nat_lit 386, ob257) :: (nat_lit 387, ob258) :: (nat_lit 388, ob1) :: (nat_lit 390, ob259) :: (nat_lit 391, ob1) :: (nat_lit 393, ob261) :: (nat_lit 394, ob262) :: (nat_lit 395, ob263) :: (nat_lit 397, (ob265 P)) :: (nat_lit 398, ob266) :: (nat_lit 399, ob267) :: (nat_lit 400, ob268) :: (nat_lit 403, ob55) :: (nat_lit 410, ob275) :: (nat_lit 411, ob1) :: (nat_lit 413, ob276) :: (nat_lit 414, ob1) :: (nat_lit 416, ob278) :: (nat_lit 417, ob279) :: (nat_lit 418, ob1) :: (nat_lit 420, ob280) :: (nat_lit 421, ob1) :: (nat_lit 423, ob282) :: (nat_lit 424, ob283) :: (nat_lit 425, ob284) :: (nat_lit 427, (ob286 P)) :: (nat_lit 428, ob287) :: (nat_lit 429, ob288) :: (nat_lit 430, ob289) :: (nat_lit 431, ob290) :: (nat_lit 432, ob291) :: (nat_lit 435, ob55) :: (nat_lit 442, ob298) :: (nat_lit 443, ob1) :: (nat_lit 445, ob299) :: (nat_lit 446, ob1) :: (nat_lit 448, ob301) :: (nat_lit 449, ob302) :: (nat_lit 450, ob1) :: (nat_lit 452, ob303) :: (nat_lit 453, ob1) :: (nat_lit 455, ob305) :: (nat_lit 456, ob306) :: (nat_lit 457, ob307) :: (nat_lit 459, (ob309 P)) :: (nat_lit 460, ob310) :: (nat_lit 461, ob311) :: (nat_lit 462, ob312) :: (nat_lit 463, ob313) :: (nat_lit 464, ob314) :: (nat_lit 467, ob55) :: (nat_lit 474, ob321) :: (nat_lit 475, ob1) :: (nat_lit 477, ob322) :: (nat_lit 478, ob1) :: (nat_lit 480, ob324) :: (nat_lit 481, ob325) :: (nat_lit 482, ob1) :: (nat_lit 484, ob326) :: (nat_lit 485, ob1) :: (nat_lit 487, ob328) :: (nat_lit 488, ob329) :: (nat_lit 489, ob330) :: (nat_lit 491, (ob332 P)) :: (nat_lit 492, ob333) :: (nat_lit 493, ob334) :: (nat_lit 494, ob335) :: (nat_lit 495, ob336) :: (nat_lit 496, ob337) :: (nat_lit 497, ob338) :: (nat_lit 498, ob339) :: (nat_lit 501, ob55) :: (nat_lit 508, ob346) :: (nat_lit 509, ob1) :: (nat_lit 511, ob347) :: (nat_lit 512, ob1) :: (nat_lit 514, ob349) :: (nat_lit 515, ob350) :: (nat_lit 516, ob1) :: (nat_lit 518, ob351) :: (nat_lit 519, ob1) :: (nat_lit 521, ob353) :: (nat_lit 522, ob354) :: (nat_lit 523, ob355) :: (nat_lit 525, (ob357 P)) :: (nat_lit 526, ob358) :: (nat_lit 527, ob359) :: (nat_lit 530, ob55) :: (nat_lit 537, ob366) :: (nat_lit 538, ob1) :: (nat_lit 540, ob367) :: (nat_lit 541, ob1) :: (nat_lit 543, ob369) :: (nat_lit 544, ob370) :: (nat_lit 545, ob1) :: (nat_lit 547, ob371) :: (nat_lit 548, ob1) :: (nat_lit 550, ob373) :: (nat_lit 551, ob374) :: (nat_lit 552, ob375) :: (nat_lit 554, (ob377 P)) :: (nat_lit 555, ob378) :: (nat_lit 556, ob379) :: (nat_lit 559, ob55) :: (nat_lit 566, ob386) :: (nat_lit 567, ob1) :: (nat_lit 569, ob387) :: (nat_lit 570, ob1) :: (nat_lit 572, ob389) :: (nat_lit 573, ob390) :: (nat_lit 574, ob1) :: (nat_lit 576, ob391) :: (nat_lit 577, ob1) :: (nat_lit 579, ob393) :: (nat_lit 580, ob394) :: (nat_lit 581, ob395) :: (nat_lit 583, (ob397 P)) :: (nat_lit 584, ob398) :: (nat_lit 585, ob399) :: (nat_lit 588, ob55) :: (nat_lit 595, ob406) :: (nat_lit 596, ob1) :: (nat_lit 598, ob407) :: (nat_lit 599, ob1) :: (nat_lit 601, ob409) :: (nat_lit 602, ob410) :: (nat_lit 603, ob1) :: (nat_lit 605, ob411) :: (nat_lit 606, ob1) :: (nat_lit 608, ob413) :: (nat_lit 609, ob414) :: (nat_lit 610, ob415) :: (nat_lit 612, (ob417 P)) :: (nat_lit 613, ob418) :: (nat_lit 614, ob419) :: (nat_lit 615, ob420) :: (nat_lit 616, ob421) :: (nat_lit 619, ob55) :: (nat_lit 626, ob428) :: (nat_lit 627, ob1) :: (nat_lit 629, ob429) :: (nat_lit 630, ob1) :: (nat_lit 632, ob431) :: (nat_lit 633, ob432) :: (nat_lit 634, ob1) :: (nat_lit 636, ob433) :: (nat_lit 637, ob1) :: (nat_lit 639, ob435) :: (nat_lit 640, ob436) :: (nat_lit 641, ob437) :: (nat_lit 643, (ob439 P)) :: (nat_lit 644, ob440) :: (nat_lit 645, ob441) :: (nat_lit 646, ob442) :: (nat_lit 647, ob443) :: (nat_lit 648, ob444) :: (nat_lit 651, ob55) :: (nat_lit 658, ob451) :: (nat_lit 659, ob1) :: (nat_lit 661, ob452) :: (nat_lit 662, ob1) :: (nat_lit 664, ob454) :: (nat_lit 665, ob455) :: (nat_lit 666, ob1) :: (nat_lit 668, ob456) :: (nat_lit 669, ob1) :: (nat_lit 671, ob458) :: (nat_lit 672, ob459) :: (nat_lit 673, ob460) :: (nat_lit 675, (ob462 P)) :: (nat_lit 676, ob463) :: (nat_lit 677, ob464) :: (nat_lit 678, ob465) :: (nat_lit 681, ob55) :: (nat_lit 688, ob472) :: (nat_lit 689, ob1) :: (nat_lit 691, ob473) :: (nat_lit 692, ob1) :: (nat_lit 694, ob475) :: (nat_lit 695, ob476) :: (nat_lit 696, ob1) :: (nat_lit 698, ob477) :: (nat_lit 699, ob1) :: (nat_lit 701, ob479) :: (nat_lit 702, ob480) :: (nat_lit 703, ob481) :: (nat_lit 705, (ob483 P)) :: (nat_lit 706, ob484) :: (nat_lit 707, ob485) :: (nat_lit 708, ob486) :: (nat_lit 709, ob487) :: (nat_lit 710, ob488) :: (nat_lit 713, (ob491 P)) :: (nat_lit 714, ob1) :: (nat_lit 716, ob1) :: (nat_lit 717, ob1) :: (nat_lit 719, ob493) :: (nat_lit 720, ob494) :: (nat_lit 721, ob495) :: (nat_lit 722, ob1) :: (nat_lit 724, ob1) :: (nat_lit 725, ob1) :: (nat_lit 727, ob497) :: (nat_lit 728, ob498) :: (nat_lit 729, ob1) :: (nat_lit 731, ob1) :: (nat_lit 732, ob1) :: (nat_lit 734, ob500) :: (nat_lit 735, ob501) :: (nat_lit 736, ob1) :: (nat_lit 738, ob1) :: (nat_lit 739, ob1) :: (nat_lit 741, ob503) :: (nat_lit 742, ob504) :: (nat_lit 743, ob1) :: (nat_lit 745, ob1) :: (nat_lit 746, ob1) :: (nat_lit 748, ob506) :: (nat_lit 749, ob507) :: (nat_lit 750, ob1) :: (nat_lit 752, ob1) :: (nat_lit 753, ob1) :: (nat_lit 755, ob509) :: (nat_lit 756, ob510) :: (nat_lit 757, ob1) :: (nat_lit 759, ob511) :: (nat_lit 760, ob1) :: (nat_lit 762, ob513) :: (nat_lit 763, ob514) :: (nat_lit 764, ob1) :: (nat_lit 766, ob515) :: (nat_lit 767, ob1) :: (nat_lit 769, ob517) :: (nat_lit 770, ob518) :: (nat_lit 771, ob1) :: (nat_lit 773, ob519) :: (nat_lit 774, ob1) :: (nat_lit 776, ob521) :: (nat_lit 777, ob522) :: (nat_lit 778, ob1) :: (nat_lit 781, ob524) :: (nat_lit 782, ob525) :: (nat_lit 783, ob1) :: (nat_lit 785, ob526) :: (nat_lit 786, ob1) :: (nat_lit 788, ob528) :: (nat_lit 789, ob529) :: (nat_lit 790, ob1) :: (nat_lit 792, ob530) :: (nat_lit 793, ob1) :: (nat_lit 795, ob532) :: (nat_lit 796, ob533) :: (nat_lit 797, ob1) :: (nat_lit 799, ob534) :: (nat_lit 800, ob1) :: (nat_lit 802, ob536) :: (nat_lit 803, ob537) :: (nat_lit 804, ob1) :: (nat_lit 807, ob539) :: (nat_lit 808, ob540) :: (nat_lit 809, ob1) :: (nat_lit 811, ob541) :: (nat_lit 812, ob1) :: (nat_lit 814, ob543) :: (nat_lit 815, ob544) :: (nat_lit 816, ob1) :: (nat_lit 818, ob545) :: (nat_lit 819, ob1) :: (nat_lit 821, ob547) :: (nat_lit 822, ob548) :: (nat_lit 823, ob1) :: (nat_lit 825, ob549) :: (nat_lit 826, ob1) :: (nat_lit 828, ob551) :: (nat_lit 829, ob552) :: (nat_lit 830, ob1) :: (nat_lit 833, ob554) :: (nat_lit 834, ob555) :: []
noncomputable def KAs : List Addr := [2, 3, 15, 17, 18, 20, 21, 22, 24, 25, 27, 28, 29, 31, 32, 34, 35, 36, 38, 39, 41, 42, 43, 45, 46, 48, 49, 50, 53, 54, 62, 63, 65, 66, 68, 69, 70, 72, 73, 75, 76, 77, 79, 80, 82, 83, 84, 86, 87, 88, 89, 92, 99, 100, 102, 103, 105, 106, 107, 109, 110, 112, 113, 114, 116, 117, 118, 119, 122, 129, 130, 132, 133, 135, 136, 137, 139, 140, 142, 143, 144, 146, 147, 148, 151, 158, 159, 161, 162, 164, 165, 166, 168, 169, 171, 172, 173, 175, 176, 177, 180, 187, 188, 190, 191, 193, 194, 195, 197, 198, 200, 201, 202, 204, 205, 207, 208, 209, 211, 212, 214, 215, 216, 218, 219, 220, 223, 230, 231, 233, 234, 236, 237, 238, 240, 241, 243, 244, 245, 247, 248, 249, 250, 253, 260, 261, 263, 264, 266, 267, 268, 270, 271, 273, 274, 275, 277, 278, 279, 280, 283, 290, 291, 293, 294, 296, 297, 298, 300, 301, 303, 304, 305, 307, 308, 309, 310, 313, 320, 321, 323, 324, 326, 327, 328, 330, 331, 333, 334, 335, 337, 338, 339, 340, 343, 350, 351, 353, 354, 356, 357, 358, 360, 361, 363, 364, 365, 367, 368, 369, 370, 373, 380, 381, 383, 384, 386, 387, 388, 390, 391, 393, 394, 395, 397, 398, 399, 400, 403, 410, 411, 413, 414, 416, 417, 418, 420, 421, 423, 424, 425, 427, 428, 429, 430, 431, 432, 435, 442, 443, 445, 446, 448, 449, 450, 452, 453, 455, 456, 457, 459, 460, 461, 462, 463, 464, 467, 474, 475, 477, 478, 480, 481, 482, 484, 485, 487, 488, 489, 491, 492, 493, 494, 495, 496, 497, 498, 501, 508, 509, 511, 512, 514, 515, 516, 518, 519, 521, 522, 523, 525, 526, 527, 530, 537, 538, 540, 541, 543, 544, 545, 547, 548, 550, 551, 552, 554, 555, 556, 559, 566, 567, 569, 570, 572, 573, 574, 576, 577, 579, 580, 581, 583, 584, 585, 588, 595, 596, 598, 599, 601, 602, 603, 605, 606, 608, 609, 610, 612, 613, 614, 615, 616, 619, 626, 627, 629, 630, 632, 633, 634, 636, 637, 639, 640, 641, 643, 644, 645, 646, 647, 648, 651, 658, 659, 661, 662, 664, 665, 666, 668, 669, 671, 672, 673, 675, 676, 677, 678, 681, 688, 689, 691, 692, 694, 695, 696, 698, 699, 701, 702, 703, 705, 706, 707, 708, 709, 710, 713, 714, 716, 717, 719, 720, 721, 722, 724, 725, 727, 728, 729, 731, 732, 734, 735, 736, 738, 739, 741, 742, 743, 745, 746, 748, 749, 750, 752, 753, 755, 756, 757, 759, 760, 762, 763, 764, 766, 767, 769, 770, 771, 773, 774, 776, 777, 778, 781, 782, 783, 785, 786, 788, 789, 790, 792, 793, 795, 796, 797, 799, 800, 802, 803, 804, 807, 808, 809, 811, 812, 814, 815, 816, 818, 819, 821, 822, 823, 825, 826, 828, 829, 830, 833, 834]
noncomputable def hV : Program := view pE [1, 2, 3, 4, 5, 6, 8, 9, 10, 11, 12, 13, 14, 15, 16, 17, 18, 19, 20, 21, 22, 23, 24, 25, 26, 27, 28, 29, 31, 32, 33, 34, 35, 36, 37, 38, 39, 40, 41, 42, 43, 44, 45, 46, 47, 48, 49, 50, 51]
noncomputable def hEnv : Env := { scope := pE.main.scope, locals := mainNs, globals := mainNs, cells := [], code := .ref 13, frame := some 14 }
abbrev bhe : List Stmt := behindTheImports pE
noncomputable abbrev cE : Code := .body bhe hEnv
abbrev q0 : Pos := ⟨0, 0, 0, 0⟩
abbrev g0s : Array GenState := ⟨[]⟩
noncomputable def stA : List Stmt := bhe.take 15
noncomputable def stB : List Stmt := (bhe.drop 15).take 7
noncomputable def stC : List Stmt := (bhe.drop 22).take 9
noncomputable def stD : List Stmt := (bhe.drop 31).take 8
noncomputable def stE : List Stmt := (bhe.drop 39).take 13
theorem bhe_split : bhe = stA ++ (stB ++ (stC ++ (stD ++ (stE ++ [])))) := by kernel_rfl
abbrev ann0 : Option Value := some (.ref 6)
theorem teSeg : @segRunT = PySem.W.Fast.tw10110043849684766642 := PySem.W.Fast.te10110043849684766642
theorem teTab : @treeTable = PySem.W.Fast.tw14364793385576792824 := PySem.W.Fast.te14364793385576792824
theorem prA : ∀ w : World, (fun os => segRunT treeTable pE (w) 11 ann0 1 2254 ⟨t47 (w).params, 15, {}, g0s, {}, 187, os⟩ (piecesOf stA hEnv cE q0 [topFrame q0])) = fun os => some (Flow.next, ⟨t305 (w).params, 253, {}, g0s, {}, 522, os⟩, cE, ⟨112, 0, 125, 47⟩) := by
  intro w
  rw [teSeg, teTab]
  kernel_rfl
theorem prB : ∀ w : World, (fun os => segRunT treeTable pE (w) 11 ann0 1 2418 ⟨t305 (w).params, 253, {}, g0s, {}, 522, os⟩ (piecesOf stB hEnv cE ⟨112, 0, 125, 47⟩ [topFrame q0])) = fun os => some (Flow.next, ⟨t540 (w).params, 467, {}, g0s, {}, 861, os⟩, cE, ⟨205, 0, 218, 18⟩) := by
  intro w
  rw [teSeg, teTab]
  kernel_rfl
theorem prC : ∀ w : World, (fun os => segRunT treeTable pE (w) 11 ann0 1 2793 ⟨t540 (w).params, 467, {}, g0s, {}, 861, os⟩ (piecesOf stC hEnv cE ⟨205, 0, 218, 18⟩ [topFrame q0])) = fun os => some (Flow.next, ⟨t810 (w).params, 713, {}, g0s, {}, 1261, os⟩, cE, ⟨355, 0, 355, 8⟩) := by
  intro w
  rw [teSeg, teTab]
  kernel_rfl
theorem prD0 : ∀ w : World, (fun os => segRunT treeTable pE (w.withFollow "special-get-raises" false) 11 ann0 1 396 ⟨t810 (w.withFollow "special-get-raises" false).params, 713, {}, g0s, {}, 1261, os⟩ (piecesOf stD hEnv cE ⟨355, 0, 355, 8⟩ [topFrame q0])) = fun os => some (Flow.next, ⟨t849 (w.withFollow "special-get-raises" false).params, 750, {}, g0s, {}, 1353, os⟩, cE, ⟨368, 0, 368, 10⟩) := by
  intro w
  rw [teSeg, teTab]
  kernel_rfl
theorem prD1 : ∀ w : World, (fun os => segRunT treeTable pE (w.withFollow "special-get-raises" true) 11 ann0 1 396 ⟨t810 (w.withFollow "special-get-raises" true).params, 713, {}, g0s, {}, 1261, os⟩ (piecesOf stD hEnv cE ⟨355, 0, 355, 8⟩ [topFrame q0])) = fun os => some (Flow.next, ⟨t849 (w.withFollow "special-get-raises" true).params, 750, {}, g0s, {}, 1353, os⟩, cE, ⟨368, 0, 368, 10⟩) := by
  intro w
  rw [teSeg, teTab]
  kernel_rfl
theorem prE : ∀ w : World, (fun os => segRunT treeTable pE (w) 11 ann0 1 409 ⟨t849 (w).params, 750, {}, g0s, {}, 1353, os⟩ (piecesOf stE hEnv cE ⟨368, 0, 368, 10⟩ [topFrame q0])) = fun os => some (Flow.next, ⟨t940 (w).params, 835, {}, g0s, {}, 1480, os⟩, cE, ⟨525, 0, 543, 77⟩) := by
  intro w
  rw [teSeg, teTab]
  kernel_rfl
theorem prD : ∀ w : World, (fun os => segRunT treeTable pE w 11 ann0 1 396 ⟨t810 w.params, 713, {}, g0s, {}, 1261, os⟩ (piecesOf stD hEnv cE ⟨355, 0, 355, 8⟩ [topFrame q0])) = fun os => some (Flow.next, ⟨t849 w.params, 750, {}, g0s, {}, 1353, os⟩, cE, ⟨368, 0, 368, 10⟩) :=
  byRow2 "special-get-raises" prD0 prD1
theorem teGo : @topGo = PySem.W.Fast.tw15667345088766844465 := PySem.W.Fast.te15667345088766844465
theorem teDen : @denote = PySem.W.Fast.tw11892475500146522536 := PySem.W.Fast.te11892475500146522536
theorem prPre : ∀ w : World, (fun os => topGo treeTable pE w 11 ann0 12 ⟨boot_heap w.params, g0s, boot_drawn, boot_toks, os⟩ (topStub pE)) = fun os => some (⟨h46 w.params, g0s, {}, 187, os⟩, ⟨denote treeTable cE, cE, q0, [topFrame q0]⟩) := by
  intro w
  rw [teGo, teDen, teTab]
  kernel_rfl
theorem teSegR : @segRun = PySem.W.Fast.tw14374325043358763698 := PySem.W.Fast.te14374325043358763698
theorem prBlock : ∀ w : World, (fun os => segRun treeTable pE w 11 ann0 1 1 ⟨h46 w.params, g0s, {}, 187, os⟩ (blockOf bhe hEnv cE q0 [topFrame q0])) = fun os => some (Flow.next, (SharedT.abs ⟨t47 w.params, 15, {}, g0s, {}, 187, os⟩), cE, q0) := by
  intro w
  rw [teSegR, teTab]
  kernel_rfl
theorem teTop : @topRun = PySem.W.Fast.tw14082659384304107361 := PySem.W.Fast.te14082659384304107361
theorem prFin : ∀ w : World, (fun os => topRun treeTable pE w 11 ann0 2 (SharedT.abs ⟨t940 w.params, 835, {}, g0s, {}, 1480, os⟩) ⟨doneF Flow.next, cE, ⟨525, 0, 543, 77⟩, [topFrame q0]⟩) = fun os => some ⟨hFin w.params, g0s, {}, 1480, os⟩ := by
  intro w
  rw [teTop, teTab]
  kernel_rfl
theorem prRun (w : World) (os : OsState) : topRun treeTable pE w 11 ann0 (12 + (1 + (2254 + (2418 + (2793 + (396 + (409 + 2))))))) ⟨boot_heap w.params, g0s, boot_drawn, boot_toks, os⟩ (topStub pE) = some ⟨hFin w.params, g0s, {}, 1480, os⟩ := by
  refine go_top (congrFun (prPre w) os) ?_
  refine piece_block (b := bhe) (env := hEnv) (c := cE) (pos := q0) (congrFun (prBlock w) os) ?_
  have h := piece_app (env := hEnv) (rest := stB ++ (stC ++ (stD ++ (stE ++ [])))) (segRun_of (congrFun (prA w) os)) (piece_app (segRun_of (congrFun (prB w) os)) (piece_app (segRun_of (congrFun (prC w) os)) (piece_app (segRun_of (congrFun (prD w) os)) (piece_app (segRun_of (congrFun (prE w) os)) (congrFun (prFin w) os)))))
  rw [← bhe_split] at h
  exact h
def hLoose : List Str := [Str.ofString "serialize_to_serializer", Str.ofString "Node", Str.ofString "ParseError", Str.ofString "Comment", Str.ofString "WhitespaceToken", Str.ofString "LiteralToken", Str.ofString "IdentToken", Str.ofString "AtKeywordToken", Str.ofString "HashToken", Str.ofString "StringToken", Str.ofString "URLToken", Str.ofString "UnicodeRangeToken", Str.ofString "NumberToken", Str.ofString "PercentageToken", Str.ofString "DimensionToken", Str.ofString "ParenthesesBlock", Str.ofString "SquareBracketsBlock", Str.ofString "CurlyBracketsBlock", Str.ofString "FunctionBlock", Str.ofString "Declaration", Str.ofString "QualifiedRule", Str.ofString "AtRule", Str.ofString "_law_COLUMNS", Str.ofString "_law_SIGNS"]
theorem KAs_ok : ∀ P, KAs = (KF P).map (·.1) := fun _ => by kernel_rfl
noncomputable def hHook : Hook := kHook KF KAs KAs_ok
noncomputable abbrev sF (w : World) (os : OsState) : Shared := ⟨hFin w.params, g0s, {}, 1480, os⟩
noncomputable abbrev hX : Shared → Bool := fun s => xlAt hV [] s && recOk PySem.Challenge.rw_te0059_01.row.records s
theorem lkA (w : World) : (fun os => (staticsOk (importedModules pE.main.body) (boot_heap w.params) (hFin w.params) && namesBound pE (hFin w.params) && gensDone (sF w os) && laidKept (boot_heap w.params) (hFin w.params))) = fun _ => true := by
  rw [show @importedModules = _ from PySem.W.Fast.te5923862056798008813]; kernel_rfl
theorem lkB (w : World) : (fun os => seen ((recsOf hV).map (·.name)) (ownsOf hV) [] { sF w os with gens := #[] }) = fun _ => expectedOf hV := by
  rw [show @seen = _ from PySem.W.Fast.te5160383126252970620, show @recsOf = _ from PySem.W.Fast.te3399658132070893891, show @ownsOf = _ from PySem.W.Fast.te5991557255702980513]; kernel_rfl
theorem lkC (w : World) : (fun os => (sF w os).heap.bltView) = fun _ => bltViewBooted := by kernel_rfl
theorem lkD (w : World) : (fun os => ((sF w os).heap.keysOk (looseW hV hLoose) ((recsOf hV).map (·.name)) ((litsOf hV).map (·.1)) ((clssOf hV (looseW hV hLoose)).map (·.name)) && (sF w os).heap.accountedOkI (importedModules pE.main.body) && (sF w os).heap.isNs mainGlobals && (sF w os).heap.isNs builtinsNs && tablesOk hV (sF w os).heap && hX (sF w os) &&
    if true = true then (sF w os).gens.size == 0 else !leftWithCleanup (sF w os).gens)) = fun _ => true := by
  rw [show @Heap.keysOk = _ from PySem.W.Fast.te10880121769531294198, show @looseW = _ from PySem.W.Fast.te821141287760084731, show @recsOf = _ from PySem.W.Fast.te3399658132070893891, show @litsOf = _ from PySem.W.Fast.te7409074990110511671, show @clssOf = _ from PySem.W.Fast.te13664370479719496447, show @Heap.accountedOkI = _ from PySem.W.Fast.te14722251495701143533, show @importedModules = _ from PySem.W.Fast.te5923862056798008813, show @tablesOk = _ from PySem.W.Fast.te10994771534591457954]; kernel_rfl
theorem lkE (w : World) : (fun os => tabsOk hV (sF w os)) = fun _ => true := by
  rw [show @tabsOk = _ from PySem.W.Fast.te479339242167458305]; kernel_rfl
theorem lkF (w : World) : (fun os => pinSeenD hV (drecsOf hV) (sF w os)) = fun _ => pinGoodD (drecsOf hV) := by
  rw [show @pinSeenD = _ from PySem.W.Fast.te16090120013241838585, show @drecsOf = _ from PySem.W.Fast.te3247288618530077131]; kernel_rfl
theorem lkG (w : World) : (fun os => plainSeenE hV (looseW hV hLoose) (sF w os)) = fun _ => plainGoodE hV (looseW hV hLoose) := by
  rw [show @plainSeenE = _ from PySem.W.Fast.te2386780881361962483, show @looseW = _ from PySem.W.Fast.te821141287760084731]; kernel_rfl
theorem lkH (w : World) : (fun os => plainSeenD hV hLoose (sF w os)) = fun _ => plainGoodD hV hLoose := by
  rw [show @plainSeenD = _ from PySem.W.Fast.te11698064438423848299]; kernel_rfl
theorem lkI (w : World) : (fun os => wideSeen hV (sF w os)) = fun _ => wideGood hV := by
  rw [show @wideSeen = _ from PySem.W.Fast.te7317090234206586261]; kernel_rfl
theorem lkJ (w : World) : (fun os => clsSeenW hV hLoose (sF w os)) = fun _ => clsGoodW hV hLoose := by
  rw [show @clsSeenW = _ from PySem.W.Fast.te7369524293546568484]; kernel_rfl
def pkO {α : Type} : List α → List Nat → Nat → List (Option α)
  | [], as, _ => as.map fun _ => none
  | _ :: _, [], _ => []
  | o :: os, a :: as, i => if a == i then some o :: pkO os as (i + 1) else pkO os (a :: as) (i + 1)
def ascN : List Nat → Nat → Bool
  | [], _ => true
  | a :: as, i => Nat.ble i a && ascN as (a + 1)
theorem ascN_le : ∀ {as : List Nat} {i : Nat}, ascN as i = true → ∀ a ∈ as, i ≤ a
  | b :: as, i, h, a, m => by
    simp only [ascN, Bool.and_eq_true, Nat.ble_eq] at h
    rcases List.mem_cons.mp m with rfl | m
    · exact h.1
    · have := ascN_le h.2 a m; lia
theorem ascN_up {a i : Nat} {as : List Nat} (h : ascN (a :: as) i = true) (ne : (a == i) = false) : ascN (a :: as) (i + 1) = true := by
  simp only [ascN, Bool.and_eq_true, Nat.ble_eq] at h ⊢
  have := ne_of_beq_false ne
  exact ⟨by lia, h.2⟩
theorem pkO_eq {α : Type} : ∀ (os : List α) (as : List Nat) (i : Nat), ascN as i = true → as.map (fun a => os[a - i]?) = pkO os as i
  | [], as, i, _ => by simp [pkO]
  | o :: os, [], i, _ => rfl
  | o :: os, a :: as, i, h => by
    have key : ∀ (bs : List Nat), ascN bs (i + 1) = true → bs.map (fun b => (o :: os)[b - i]?) = bs.map (fun b => os[b - (i + 1)]?) := fun bs hb =>
      List.map_congr_left fun b m => by
        have := ascN_le hb b m
        rw [show b - i = (b - (i + 1)) + 1 by lia, List.getElem?_cons_succ]
    cases e : a == i with
    | true =>
      have ea := eq_of_beq e
      simp only [ascN, Bool.and_eq_true] at h
      rw [pkO, if_pos e, ← pkO_eq os as (i + 1) (by rw [← ea]; exact h.2), List.map_cons, key as (by rw [← ea]; exact h.2), ea, Nat.sub_self]; rfl
    | false =>
      rw [pkO, if_neg (by rw [e]; decide), ← pkO_eq os (a :: as) (i + 1) (ascN_up h e), key _ (ascN_up h e)]
def liveO (o : Option Obj) : Option Obj := match o with
  | some ⟨_, _, .freed, _⟩ => none
  | o => o
theorem obs_pkO (as : List Nat) (h : Heap) (ok : ascN as 0 = true) : as.map h.get? = (pkO h.objs.toList as 0).map liveO := by
  rw [← pkO_eq _ _ _ ok, List.map_map]
  exact List.map_congr_left fun a _ => by
    show Heap.get? h a = liveO (h.objs.toList[a - 0]?)
    rw [Nat.sub_zero, Array.getElem?_toList]; rfl
theorem lkKa : ascN KAs 0 = true := by kernel_rfl
theorem lkKb (w : World) : (pkO (hFin w.params).objs.toList KAs 0).map liveO = (KF w.params).map (fun p => some p.2) := by kernel_rfl
theorem lkK (w : World) : (fun os => hHook.obs (sF w os)) = fun _ => hHook.val w :=
  funext fun _ => (show KAs.map (hFin w.params).get? = (KF w.params).map (fun p => some p.2) from (obs_pkO KAs (hFin w.params) lkKa).trans (lkKb w))
theorem hOpen : opening pE = plainProg pE.main.scope.names := by kernel_rfl
theorem hFence (s : Shared) : fenceModules? pE s = some s := by kernel_rfl
theorem hSize (w : World) : ((boot_heap w.params).isNs mainGlobals && g0s.size == 0, (boot_heap w.params).objs.size, (boot_heap w.params).nsMap mainGlobals "__annotations__") = (true, 11, ann0) := by kernel_rfl
theorem hLooks (w : World) : (fun os => ((staticsOk (importedModules pE.main.body) (boot_heap w.params) (hFin w.params) && namesBound pE (hFin w.params) && gensDone (sF w os) && laidKept (boot_heap w.params) (hFin w.params)), openSeen hV hLoose (importedModules pE.main.body) hX true (sF w os), hHook.obs (sF w os))) = fun _ => (true, openGood hV hLoose, hHook.val w) :=
  funext fun os => looks_pair (congrFun (lkA w) os) (looks_pair (looks_pair (congrFun (lkB w) os) (looks_pair (congrFun (lkC w) os) (looks_pair (congrFun (lkD w) os) (looks_pair (congrFun (lkE w) os) (looks_pair (congrFun (lkF w) os) (looks_pair (congrFun (lkG w) os) (looks_pair (congrFun (lkH w) os) (looks_pair (congrFun (lkI w) os) (congrFun (lkJ w) os)))))))))  (congrFun (lkK w) os))
theorem hLeft : LeftO pE hV hLoose hX hHook.obs hHook.val 16616 true :=
  LeftO.of_pieces (H₀ := boot_heap) (H₁ := hFin) (gs₀ := g0s) (gs₁ := g0s) (d₀ := boot_drawn) (d₁ := {}) (k₀ := boot_toks) (k₁ := 1480) (m₀ := 11) (ann := ann0) (M := 12 + (1 + (2254 + (2418 + (2793 + (396 + (409 + 2)))))))
    (boot_open hOpen (by decide) hFence) hSize prRun (by decide) hLooks
theorem hSaid : PySem.Challenge.rw_te0059_01.wellSaid = true := by
  rw [show @OpenLaw.wellSaid = _ from PySem.W.Fast.te9446332074065402090]; kernel_rfl
abbrev PG : Program := PySem.Challenge.pw_te0059_01
abbrev NoE : Value → Shared → Prop := fun _ _ => False
abbrev Fz := Addr → Option Obj
/-- the code object of serialize_name -/
abbrev cN : Addr := 34

def Tab (P : Addr) (h : Heap) : Prop := ∃ ps, h.IsCode cN P ps ∧ h.TableAt cN P ps

structure Gd (K : Frag) (g0 : Heap) (P : Addr) : Prop where
  X : K.In g0
  T : ∃ p loose mg mb, TopRead p loose mg mb g0
  Plt : P < g0.objs.size
  Pno : g0.get? P = none
  ccN : cN ≠ P
  cin : ∃ o, g0.get? cN = some o
  B : ∃ mg bm ob, g0.Ns mainGlobals mg ∧ mg "__builtins__" = some (.ref bm) ∧ bm ≠ builtinsNs ∧ g0.get? bm = some ob ∧ ob.cls = .type "module" ∧ ob.dict = some builtinsNs ∧ ob.data = .plain

structure Inv (g0 : Heap) (P : Addr) (s : Shared) : Prop where
  top : ∀ b o, g0.get? b = some o → s.heap.get? b = some o
  bare : AllBare s.gens
  tab : Tab P s.heap
  size : g0.objs.size ≤ s.heap.objs.size

structure Pres (P : Addr) (D : List Addr) (s s' : Shared) : Prop where
  os : s'.os = s.os
  size : s.heap.objs.size ≤ s'.heap.objs.size
  keep : ∀ b o, s.heap.get? b = some o → b ∉ D → b ≠ P → s'.heap.get? b = some o

structure Cx where
  g0 : Heap
  P : Addr
  s0 : Shared
  D : List Addr
  L : Addr

structure St (c : Cx) (φ : Fz) (m : List (Str × Value)) (R : List (Addr × Obj)) (s : Shared) : Prop where
  ns : s.heap.Ns c.L (fun y => m.lookup y)
  old : ∀ b o, c.s0.heap.get? b = some o → b ∉ c.D → b ≠ c.P → φ b = some o
  top : ∀ b o, c.g0.get? b = some o → φ b = some o
  fz : ∀ b o, φ b = some o → s.heap.get? b = some o
  led : ∀ p ∈ R, s.heap.get? p.1 = some p.2 ∧ φ p.1 = none ∧ p.1 ≠ c.L ∧ c.g0.objs.size ≤ p.1
  ord : (R.map (·.1)).Nodup
  Lφ : φ c.L = none
  Pφ : φ c.P = none
  Lg : c.g0.objs.size ≤ c.L
  L0 : c.s0.heap.objs.size ≤ c.L
  Plt : c.P < c.g0.objs.size
  cin : ∃ o, c.g0.get? cN = some o
  os : s.os = c.s0.os
  bare : AllBare s.gens
  tab : Tab c.P s.heap

section
variable {c : Cx} {φ φ' : Fz} {m : List (Str × Value)} {R R' : List (Addr × Obj)} {s s' : Shared} {K : Frag}

theorem Tab.keeps {P : Addr} {h h' : Heap} (t : Tab P h) (k : ∀ b o, h.get? b = some o → h'.get? b = some o) : Tab P h' :=
  let ⟨ps, a, b⟩ := t; ⟨ps, a.keeps k, b.keeps k⟩
theorem Tab.but {P : Addr} {h h' : Heap} {a : Addr} (t : Tab P h) (k : Heap.ExtBut a h h') (h1 : cN ≠ a) (h2 : P ≠ a) : Tab P h' :=
  let ⟨ps, x, y⟩ := t; ⟨ps, x.extBut k h1 h2, y.extBut k h1 h2⟩

theorem St.clt (H : St c φ m R s) : cN < c.g0.objs.size := let ⟨_, e⟩ := H.cin; Heap.lt_size e
theorem St.Llt (H : St c φ m R s) : c.L < s.heap.objs.size := H.ns.lt
theorem St.inv (H : St c φ m R s) : Inv c.g0 c.P s := ⟨fun b o e => H.fz b o (H.top b o e), H.bare, H.tab, Nat.le_of_lt (Nat.lt_of_le_of_lt H.Lg H.Llt)⟩
theorem St.pres (H : St c φ m R s) : Pres c.P c.D c.s0 s := ⟨H.os, Nat.le_of_lt (Nat.lt_of_le_of_lt H.L0 H.Llt), fun b o e h1 h2 => H.fz b o (H.old b o e h1 h2)⟩
theorem St.done (H : St c φ m R s) {D : List Addr} (e : c.D = D) : Pres c.P D c.s0 s := e ▸ H.pres
theorem St.toks (H : St c φ m R s) (k : Nat) : St c φ m R { s with toks := k } := ⟨H.ns, H.old, H.top, H.fz, H.led, H.ord, H.Lφ, H.Pφ, H.Lg, H.L0, H.Plt, H.cin, H.os, H.bare, H.tab⟩
theorem St.kIn (H : St c φ m R s) {P : Addr} (G : Gd K c.g0 P) : K.In s.heap := G.X.keeps H.inv.top
theorem St.get (H : St c φ m R s) {a : Addr} {o : Obj} (i : Nat) (hi : R[i]? = some (a, o)) : s.heap.get? a = some o := (H.led _ (List.mem_of_getElem? hi)).1
theorem St.lt (H : St c φ m R s) {p : Addr × Obj} (hp : p ∈ R) : p.1 < s.heap.objs.size := Heap.lt_size (H.led p hp).1
theorem St.glob {P : Addr} (H : St c φ m R s) (G : Gd K c.g0 P) {x : Str} {v : Value} (e : nsIn K mainGlobals x = some (some v)) : ∃ mg, s.heap.Ns mainGlobals mg ∧ mg x = some v := by
  obtain ⟨p, loose, mg, mb, T⟩ := G.T
  exact ⟨mg, T.g.keeps H.inv.top, mg_of G.X T.g e⟩

/-- only the heap at L changed -/
theorem St.store (H : St c φ m R s) {x : Str} {v : Value} {h' : Heap} {k : Nat} (hn : h'.Ns c.L (fun y => if y = x then some v else m.lookup y)) (hs : Heap.SameBut c.L s.heap h') :
    St c φ ((x, v) :: m) R { s with heap := h', toks := k } := by
  have hP : c.P ≠ c.L := fun e => Nat.lt_irrefl _ (Nat.lt_of_lt_of_le (e ▸ H.Plt) H.Lg)
  have e : (fun y => if y = x then some v else m.lookup y) = fun y => ((x, v) :: m).lookup y := by
    funext y
    by_cases hy : y = x
    · subst hy; simp
    · have : (y == x) = false := beq_eq_false_iff_ne.mpr hy
      simp [List.lookup_cons, this, hy]
  have hc : cN ≠ c.L := fun e => Nat.lt_irrefl _ (Nat.lt_of_lt_of_le (e ▸ H.clt) H.Lg)
  exact ⟨e ▸ hn, H.old, H.top, fun b o q => (hs.2 b (fun z => by rw [z, H.Lφ] at q; cases q)).trans (H.fz b o q),
    fun p hp => ⟨(hs.2 p.1 (H.led p hp).2.2.1).trans (H.led p hp).1, (H.led p hp).2⟩, H.ord, H.Lφ, H.Pφ, H.Lg, H.L0, H.Plt, H.cin, H.os, H.bare, H.tab.but hs.extBut hc hP⟩

theorem St.push (H : St c φ m R s) (o : Obj) (k : Nat) (hf : o.isFreed = false := by rfl) : St c φ m ((s.heap.objs.size, o) :: R) { s with heap := s.heap.push o, toks := k } := by
  have kp : ∀ b o', s.heap.get? b = some o' → (s.heap.push o).get? b = some o' := fun b o' e => Heap.get?_push_of_some _ e
  have nφ : φ s.heap.objs.size = none := by
    cases q : φ s.heap.objs.size with
    | none => rfl
    | some o' => exact absurd (Heap.lt_size (H.fz _ _ q)) (Nat.lt_irrefl _)
  refine ⟨H.ns.push o, H.old, H.top, fun b o' e => kp b o' (H.fz b o' e), fun p hp => ?_, ?_, H.Lφ, H.Pφ, H.Lg, H.L0, H.Plt, H.cin, H.os, H.bare, H.tab.keeps kp⟩
  · rcases List.mem_cons.mp hp with rfl | hp
    · exact ⟨Heap.get?_push_size _ hf, nφ, Nat.ne_of_gt H.Llt, Nat.le_of_lt (Nat.lt_of_le_of_lt H.Lg H.Llt)⟩
    · exact ⟨kp _ _ (H.led p hp).1, (H.led p hp).2⟩
  · rw [List.map_cons]
    refine List.nodup_cons.mpr ⟨fun hm => ?_, H.ord⟩
    obtain ⟨p, hp, e⟩ := List.mem_map.mp hm
    exact absurd (H.lt hp) (e ▸ Nat.lt_irrefl _)

theorem nodup_get {R : List (Addr × Obj)} (h : (R.map (·.1)).Nodup) {i : Nat} {p q : Addr × Obj} (hi : R[i]? = some p) (hq : q ∈ R) (e : q.1 = p.1) : q = p := by
  obtain ⟨j, hj, rfl⟩ := List.mem_iff_getElem.mp hq
  obtain ⟨hl, rfl⟩ := List.getElem?_eq_some_iff.mp hi
  have h' := List.pairwise_iff_getElem.mp (List.nodup_iff_pairwise_ne.mp h)
  rcases Nat.lt_trichotomy j i with q | q | q
  · exact absurd (by rw [List.getElem_map, List.getElem_map]; exact e) (h' j i (by simpa using hj) (by simpa using hl) q)
  · subst q; rfl
  · exact absurd (by rw [List.getElem_map, List.getElem_map]; exact e.symm) (h' i j (by simpa using hl) (by simpa using hj) q)

/-- an object of the ledger is changed -/
theorem St.upd (H : St c φ m R s) {a : Addr} {o o' : Obj} {h' : Heap} (i : Nat) (hi : R[i]? = some (a, o)) (hs : Heap.SameBut a s.heap h') (ho : h'.get? a = some o') (k : Nat) :
    St c φ m (R.set i (a, o')) { s with heap := h', toks := k } := by
  have hm := List.mem_of_getElem? hi
  obtain ⟨h1, h2, h3, h4⟩ := H.led _ hm
  have hP : c.P ≠ a := fun e => Nat.lt_irrefl _ (Nat.lt_of_lt_of_le (e ▸ H.Plt) h4)
  have hc : cN ≠ a := fun e => Nat.lt_irrefl _ (Nat.lt_of_lt_of_le (e ▸ H.clt) h4)
  obtain ⟨hl, _⟩ := List.getElem?_eq_some_iff.mp hi
  have em : (R.set i (a, o')).map (·.1) = R.map (·.1) := by
    rw [List.map_set]
    have : (R.map (·.1))[i]? = some a := by rw [List.getElem?_map, hi]; rfl
    exact List.ext_getElem? fun j => by
      rw [List.getElem?_set]
      split
      · rename_i e; subst e
        split
        · exact this.symm
        · rename_i q; simp at q; rw [List.getElem?_eq_none (by simpa using q)]
      · rfl
  refine ⟨H.ns.at fun o e => (hs.2 c.L (Ne.symm h3)).trans e, H.old, H.top, fun b o q => (hs.2 b (fun z => by rw [z, h2] at q; cases q)).trans (H.fz b o q), fun p hp => ?_, by rw [em]; exact H.ord, H.Lφ, H.Pφ, H.Lg, H.L0, H.Plt, H.cin, H.os, H.bare, H.tab.but hs.extBut hc hP⟩
  by_cases hpa : p.1 = a
  · have : p = (a, o') := nodup_get (by rw [em]; exact H.ord) (i := i) (p := (a, o')) (by rw [List.getElem?_set]; simp [hl]) hp hpa
    subst this; exact ⟨ho, h2, h3, h4⟩
  · rcases List.mem_or_eq_of_mem_set hp with hp | rfl
    · exact ⟨(hs.2 _ hpa).trans (H.led p hp).1, (H.led p hp).2⟩
    · exact absurd rfl hpa

/-- behind a call that keeps all but the objects D -/
theorem St.call (H : St c φ m R s) {D : List Addr} (p : Pres c.P D s s') (I : Inv c.g0 c.P s') (hD : ∀ d ∈ D, ∃ q ∈ R, q.1 = d) (hR : R'.map (·.1) = R.map (·.1))
    (hg : ∀ q ∈ R', q.1 ∈ D → s'.heap.get? q.1 = some q.2) (hs : ∀ q ∈ R', q.1 ∉ D → q ∈ R) : St c φ m R' s' := by
  have nD : ∀ b, φ b ≠ none → b ∉ D := fun b hb hd => by
    obtain ⟨q, hq, rfl⟩ := hD b hd
    exact hb (H.led q hq).2.1
  have LD : c.L ∉ D := fun hd => by
    obtain ⟨q, hq, e⟩ := hD _ hd
    exact (H.led q hq).2.2.1 e
  have LP : c.L ≠ c.P := fun e => Nat.lt_irrefl _ (Nat.lt_of_lt_of_le (e ▸ H.Plt) H.Lg)
  refine ⟨H.ns.at fun o e => p.keep _ o e LD LP, H.old, H.top, fun b o e => p.keep b o (H.fz b o e) (nD b (by rw [e]; exact fun z => nomatch z)) (fun z => by rw [z, H.Pφ] at e; cases e), fun q hq => ?_, by rw [hR]; exact H.ord,
    H.Lφ, H.Pφ, H.Lg, H.L0, H.Plt, H.cin, p.os.trans H.os, I.bare, I.tab⟩
  have hm : q.1 ∈ R.map (·.1) := hR ▸ List.mem_map_of_mem hq
  obtain ⟨q', hq', e⟩ := List.mem_map.mp hm
  have L := H.led q' hq'
  rw [e] at L
  by_cases hd : q.1 ∈ D
  · exact ⟨hg q hq hd, L.2⟩
  · exact ⟨p.keep _ _ (H.led q (hs q hq hd)).1 hd (fun z => Nat.lt_irrefl _ (Nat.lt_of_lt_of_le (z ▸ H.Plt) L.2.2.2)), L.2⟩
theorem St.call0 (H : St c φ m R s) (p : Pres c.P [] s s') (I : Inv c.g0 c.P s') : St c φ m R s' :=
  H.call p I (fun _ h => nomatch h) rfl (fun _ _ h => nomatch h) fun _ hq _ => hq
theorem St.call1 (H : St c φ m R s) {d : Addr} {o o' : Obj} (i : Nat) (hi : R[i]? = some (d, o)) (p : Pres c.P [d] s s') (I : Inv c.g0 c.P s') (ho : s'.heap.get? d = some o') : St c φ m (R.set i (d, o')) s' := by
  have hm := List.mem_of_getElem? hi
  obtain ⟨hl, _⟩ := List.getElem?_eq_some_iff.mp hi
  have em : (R.set i (d, o')).map (·.1) = R.map (·.1) := by
    rw [List.map_set]
    have : (R.map (·.1))[i]? = some d := by rw [List.getElem?_map, hi]; rfl
    exact List.ext_getElem? fun j => by
      rw [List.getElem?_set]
      split
      · rename_i e; subst e
        split
        · exact this.symm
        · rename_i q; simp at q; rw [List.getElem?_eq_none (by simpa using q)]
      · rfl
  refine H.call p I (fun x hx => ⟨(d, o), hm, (List.mem_singleton.mp hx).symm⟩) em (fun q hq hd => ?_) fun q hq hd => ?_
  · have hd := List.mem_singleton.mp hd
    have : q = (d, o') := nodup_get (by rw [em]; exact H.ord) (i := i) (p := (d, o')) (by rw [List.getElem?_set]; simp [hl]) hq hd
    subst this; exact ho
  · rcases List.mem_or_eq_of_mem_set hq with hq | rfl
    · exact hq
    · exact absurd (List.mem_singleton.mpr rfl) hd

theorem Tab.of {P : Addr} {h h' : Heap} (t : Tab P h) (h1 : ∀ o, h.get? cN = some o → h'.get? cN = some o) (h2 : ∀ o, h.get? P = some o → h'.get? P = some o) : Tab P h' := by
  obtain ⟨ps, ⟨o, vs, file, tf, flags, tg, inF, text, tt, op, a, r1, r2, r3, r4, r5, r6, b, r⟩, ⟨⟨o', vs', a', r'⟩, b'⟩⟩ := t
  exact ⟨ps, ⟨o, vs, file, tf, flags, tg, inF, text, tt, op, h1 _ a, r1, r2, r3, r4, r5, r6, h2 _ b, r⟩, ⟨⟨o', vs', h1 _ a', r'⟩, h2 _ b'⟩⟩

/-- all that stood is kept, but for the table -/
theorem St.since (H : St c φ m R s) (hos : s'.os = s.os) (hb : AllBare s'.gens) (k : ∀ b o, b ≠ c.P → s.heap.get? b = some o → s'.heap.get? b = some o) (t : Tab c.P s'.heap) : St c φ m R s' := by
  have nP : ∀ b, c.g0.objs.size ≤ b → b ≠ c.P := fun b h e => Nat.lt_irrefl _ (Nat.lt_of_lt_of_le (e ▸ H.Plt) h)
  exact ⟨H.ns.at fun o e => k _ o (nP _ H.Lg) e, H.old, H.top, fun b o e => k b o (fun z => by rw [z, H.Pφ] at e; cases e) (H.fz b o e), fun p hp => ⟨k _ _ (nP _ (H.led p hp).2.2.2) (H.led p hp).1, (H.led p hp).2⟩,
    H.ord, H.Lφ, H.Pφ, H.Lg, H.L0, H.Plt, H.cin, hos.trans H.os, hb, t⟩
theorem St.via (H : St c φ m R s) : ∃ Z : List (Addr × Obj), Fr c.g0 c.L s.heap (fun y => m.lookup y) ∧ News c.g0 c.L s.heap (R ++ Z) ∧ (∀ p ∈ Z, p.1 ∉ R.map (·.1)) ∧
    ∀ m' R' s', s'.os = s.os → AllBare s'.gens → Fr c.g0 c.L s'.heap (fun y => m'.lookup y) → News c.g0 c.L s'.heap (R' ++ Z) → (R'.map (·.1)).Nodup → (∀ p ∈ R', φ p.1 = none ∧ c.g0.objs.size ≤ p.1) → St c φ m' R' s' := by
  obtain ⟨ps, ht1, ht2⟩ := H.tab
  let Z : List (Addr × Obj) := (c.P, { cls := .none, data := .fields ps }) :: (List.range s.heap.objs.size).filterMap fun b => if (c.g0.get? b).isNone then (φ b).map (b, ·) else none
  have hZ : ∀ p ∈ Z, s.heap.get? p.1 = some p.2 ∧ p.1 ≠ c.L ∧ c.g0.get? p.1 = none ∧ p.1 ∉ R.map (·.1) := by
    intro p hp
    have PL : c.P ≠ c.L := fun e => Nat.lt_irrefl _ (Nat.lt_of_lt_of_le (e ▸ H.Plt) H.Lg)
    rcases List.mem_cons.mp hp with rfl | hp
    · refine ⟨ht2.2, PL, ?_, fun hm => ?_⟩
      · cases q : c.g0.get? c.P with
        | none => rfl
        | some o => have := H.top _ _ q; rw [H.Pφ] at this; cases this
      · obtain ⟨q, hq, e⟩ := List.mem_map.mp hm
        have e' : q.1 = c.P := e
        exact Nat.lt_irrefl _ (Nat.lt_of_lt_of_le H.Plt (e' ▸ (H.led q hq).2.2.2))
    · obtain ⟨b, hb, e⟩ := List.mem_filterMap.mp hp
      cases q : c.g0.get? b with
      | some o => simp [q] at e
      | none =>
        simp only [q, Option.isNone_none, if_true, Option.map_eq_some_iff] at e
        obtain ⟨o, ho, rfl⟩ := e
        refine ⟨H.fz _ _ ho, fun z => ?_, q, fun hm => ?_⟩
        · have z' : b = c.L := z
          rw [z', H.Lφ] at ho; cases ho
        · obtain ⟨r, hr, e⟩ := List.mem_map.mp hm
          have e' : r.1 = b := e
          have := (H.led r hr).2.1; rw [e', ho] at this; cases this
  refine ⟨Z, ⟨H.ns, fun b o e => H.fz b o (H.top b o e), H.Lg⟩, fun p hp => ?_, fun p hp => (hZ p hp).2.2.2, ?_⟩
  · rcases List.mem_append.mp hp with hp | hp
    · refine ⟨(H.led p hp).1, (H.led p hp).2.2.1, ?_⟩
      cases q : c.g0.get? p.1 with
      | none => rfl
      | some o => exact absurd (Heap.lt_size q) (Nat.not_lt.mpr (H.led p hp).2.2.2)
    · exact ⟨(hZ p hp).1, (hZ p hp).2.1, (hZ p hp).2.2.1⟩
  · intro m' R' s' hos hb F N hn hR
    obtain ⟨o34, h34⟩ := H.cin
    refine ⟨F.ns, H.old, H.top, fun b o e => ?_, fun p hp => ⟨(N p (List.mem_append_left _ hp)).1, (hR p hp).1, (N p (List.mem_append_left _ hp)).2.1, (hR p hp).2⟩, hn, H.Lφ, H.Pφ, H.Lg, H.L0, H.Plt, H.cin, hos.trans H.os, hb, H.tab.of (fun o e => ?_) fun o e => ?_⟩
    · cases q : c.g0.get? b with
      | some o' =>
        have := H.top b o' q
        rw [e] at this; cases this
        exact F.keep b o q
      | none =>
        have hm : (b, o) ∈ Z := List.mem_cons_of_mem _ (List.mem_filterMap.mpr ⟨b, List.mem_range.mpr (Heap.lt_size (H.fz b o e)), by simp [q, e]⟩)
        exact (N _ (List.mem_append_right _ hm)).1
    · have := H.fz _ _ (H.top _ _ h34)
      rw [e] at this; cases this
      exact F.keep _ _ h34
    · rw [ht2.2] at e; cases e
      exact (N _ (List.mem_append_right _ (.head _))).1

/-- more is frozen -/
def Fz.le (φ φ' : Fz) : Prop := ∀ b o, φ b = some o → φ' b = some o
def Fz.join (φ ψ : Fz) : Fz := fun b => (φ b).or (ψ b)
theorem Fz.le_refl (φ : Fz) : Fz.le φ φ := fun _ _ e => e
theorem Fz.le.trans {a b d : Fz} (x : Fz.le a b) (y : Fz.le b d) : Fz.le a d := fun q o e => y q o (x q o e)
theorem Fz.le_left (φ ψ : Fz) : Fz.le φ (φ.join ψ) := fun b o e => by simp [Fz.join, e]
structure Fresh (n : Nat) (ψ : Fz) (h : Heap) : Prop where
  at_ : ∀ b o, ψ b = some o → h.get? b = some o
  new : ∀ b o, ψ b = some o → n ≤ b
theorem St.sub (H : St c φ m R s) (h : ∀ p ∈ R', p ∈ R) (hn : (R'.map (·.1)).Nodup) : St c φ m R' s :=
  ⟨H.ns, H.old, H.top, H.fz, fun p hp => H.led p (h p hp), hn, H.Lφ, H.Pφ, H.Lg, H.L0, H.Plt, H.cin, H.os, H.bare, H.tab⟩
theorem St.tail (H : St c φ m R s) (k : Nat) : St c φ m (R.drop k) s := H.sub (fun _ h => List.mem_of_mem_drop h) (by rw [List.map_drop]; exact H.ord.sublist (List.drop_sublist ..))
theorem St.freeze {a : Addr} {o : Obj} (H : St c φ m ((a, o) :: R) s) : St c (φ.join fun b => if b = a then some o else none) m R s := by
  obtain ⟨h1, h2, h3, h4⟩ := H.led (a, o) (.head _)
  have nd := List.nodup_cons.mp (by have := H.ord; rwa [List.map_cons] at this)
  have ne : ∀ p ∈ R, p.1 ≠ a := fun p hp e => nd.1 (List.mem_map.mpr ⟨p, hp, e⟩)
  refine ⟨H.ns, fun b o e h1 h2 => Fz.le_left _ _ b o (H.old b o e h1 h2), fun b o e => Fz.le_left _ _ b o (H.top b o e), fun b o' e => ?_, fun p hp => ⟨(H.led p (.tail _ hp)).1, ?_, (H.led p (.tail _ hp)).2.2⟩, nd.2, ?_, ?_, H.Lg, H.L0, H.Plt, H.cin, H.os, H.bare, H.tab⟩
  · unfold Fz.join at e
    cases q : φ b with
    | some o'' => rw [q] at e; cases e; exact H.fz b _ q
    | none =>
      rw [q] at e
      by_cases hb : b = a
      · subst hb; simp at e; subst e; exact h1
      · simp [hb] at e
  · simp [Fz.join, (H.led p (.tail _ hp)).2.1, ne p hp]
  · simp [Fz.join, H.Lφ, Ne.symm h3]
  · have : c.P ≠ a := fun e => Nat.lt_irrefl _ (Nat.lt_of_lt_of_le (e ▸ H.Plt) h4)
    simp [Fz.join, H.Pφ, this]
end

/-- the room left above -/
structure Rm (A : Around) (n : Nat) : Prop where
  hh : A.handled = none
  dp : A.depth + n < recursionLimit
  un : A.units + 8 * n < cLine
theorem Rm.deeper {A : Around} {n : Nat} {env : Env} (r : Rm A (n + 1)) : Rm (A.deeper env) n :=
  ⟨r.hh, by rw [depth_deeper]; have := r.dp; lia, by rw [Around.deeper_units]; have := r.un; lia⟩
theorem Rm.less {A : Around} {n k : Nat} (r : Rm A n) (h : k ≤ n) : Rm A k := ⟨r.hh, by have := r.dp; lia, by have := r.un; lia⟩
theorem Rm.room {A : Around} {n : Nat} (r : Rm A n) : A.depth < recursionLimit := by have := r.dp; lia
section
variable {K : Frag} {g0 : Heap} {P : Addr} {w : World} {A : Around} {s : Shared} {Q : Value → Shared → Prop}

/-- a value comes back -/
def RQ (Q : Value → Shared → Prop) (r : Result) (s' : Shared) : Prop := match r with
  | .ok (.ret v) => Q v s'
  | _ => False
/-- the frame of a called def -/
theorem enterC {n : Nat} {f : Addr} {args : List Value} {name qual : Str} {params : Arguments} {body : List Stmt} {scope : Scope} {dV kV doc pm cdv ct oc : Value} {an od : Option Addr} {osl : Array (Option Value)} {binds : List (Str × Value)}
    (G : Gd K g0 P) (I : Inv g0 P s) (r : Rm A (n + 1)) (D : List (Addr × Obj)) (hD : ∀ p ∈ D, s.heap.get? p.1 = some p.2 ∧ g0.objs.size ≤ p.1) (nD : (D.map (·.1)).Nodup)
    (ho : K.lookup f = some ⟨oc, od, .func (fnOf name qual params body scope dV kV doc pm an cdv ct), osl⟩) (hcd : codeIn K cdv qual = true)
    (hbind : BindsTo s (fnOf name qual params body scope dV kV doc pm an cdv ct) ⟨args, []⟩ binds)
    {m : List (Str × Value)} {Ds : List Addr} (hm : binds.reverse = m) (hDs : D.map (·.1) = Ds)
    (h : ∀ (c : Cx) φ s₁, c.g0 = g0 → c.P = P → c.s0 = s → c.D = Ds → (∀ b o, φ b = some o ↔ (s.heap.get? b = some o ∧ b ∉ Ds ∧ b ≠ P)) → St c φ m D s₁ → Rm (A.deeper (envOf qual scope c.L f cdv)) n →
      wpAny (model PG w) (A.deeper (envOf qual scope c.L f cdv)) (execs body (envOf qual scope c.L f cdv)) (fun fl s' => Q (match fl with | .ret v => v | _ => .none) s') NoE s₁)
    (hloc : (binds.all fun x => decide (scope.names.lookup x.1 = some .local)) = true) (hcell : (scope.names.all fun x => decide (x.2 ≠ .cell)) = true)
    (hco : scope.isCoroutine = false := by rfl) (hgen : scope.isGenerator = false := by rfl) (hk : scope.kind = .function := by rfl) :
    codeAny (model PG w) A (.call (.ref f) ⟨args, []⟩) (RQ Q) s := by
  subst hm hDs
  have X := G.X.keeps I.top
  obtain ⟨p, loose, mg, mb, T⟩ := G.T
  have hlim : s.heap.NoLimit := T.nolimit.keeps I.top
  refine (codeAny_call_def (fd := fnOf name qual params body scope dV kV doc pm an cdv ct) (body := body) (binds := binds) r.room (X _ _ ho) rfl hlim (codeRec_of X hcd) rfl hbind
    (fun x hx => of_decide_eq_true (List.all_eq_true.mp hcell x hx)) (fun x hx => of_decide_eq_true (List.all_eq_true.mp hloc x hx)) (fun h₁ hns hk₁ => ?_) hco hgen hk)
  let c : Cx := ⟨g0, P, s, D.map (·.1), s.heap.objs.size⟩
  let φ : Fz := fun b => if b ∈ D.map (·.1) ∨ b = P then none else s.heap.get? b
  have hlo : g0.objs.size ≤ s.heap.objs.size := I.size
  have H : St c φ binds.reverse D { s with heap := h₁, toks := s.toks + binds.length } := by
    refine ⟨hns, fun b o e h1 h2 => ?_, fun b o e => ?_, fun b o e => ?_, fun q hq => ⟨hk₁ _ _ (hD q hq).1, ?_, Nat.ne_of_lt (Heap.lt_size (hD q hq).1), (hD q hq).2⟩, nD, ?_, ?_, hlo, Nat.le_refl _, G.Plt, G.cin, rfl, I.bare, I.tab.keeps hk₁⟩
    · show (if b ∈ D.map (·.1) ∨ b = P then none else s.heap.get? b) = some o
      have h1' : b ∉ D.map (·.1) := h1
      have h2' : b ≠ P := h2
      rw [if_neg (by simp only [not_or]; exact ⟨h1', h2'⟩)]; exact e
    · have e : g0.get? b = some o := e
      have hlt := Heap.lt_size e
      show (if b ∈ D.map (·.1) ∨ b = P then none else s.heap.get? b) = some o
      rw [if_neg]
      · exact I.top b o e
      · rintro (q | q)
        · obtain ⟨p, hp, rfl⟩ := List.mem_map.mp q
          exact absurd hlt (Nat.not_lt.mpr (hD p hp).2)
        · rw [q, G.Pno] at e; cases e
    · have e : (if b ∈ D.map (·.1) ∨ b = P then none else s.heap.get? b) = some o := e
      split at e
      · cases e
      · exact hk₁ b o e
    · show (if q.1 ∈ D.map (·.1) ∨ q.1 = P then none else s.heap.get? q.1) = none
      rw [if_pos (.inl (List.mem_map_of_mem hq))]
    · show (if s.heap.objs.size ∈ D.map (·.1) ∨ s.heap.objs.size = P then none else s.heap.get? s.heap.objs.size) = none
      split
      · rfl
      · cases q : s.heap.get? s.heap.objs.size with
        | none => rfl
        | some o => exact absurd (Heap.lt_size q) (Nat.lt_irrefl _)
    · show (if P ∈ D.map (·.1) ∨ P = P then none else s.heap.get? P) = none
      rw [if_pos (.inr rfl)]
  have hφ : ∀ b o, φ b = some o ↔ (s.heap.get? b = some o ∧ b ∉ D.map (·.1) ∧ b ≠ P) := fun b o => by
    show (if b ∈ D.map (·.1) ∨ b = P then none else s.heap.get? b) = some o ↔ _
    split
    · rename_i q; constructor
      · intro z; cases z
      · rintro ⟨_, z1, z2⟩; exact (q.elim z1 z2).elim
    · rename_i q; simp only [not_or] at q; exact ⟨fun z => ⟨z, q⟩, fun z => z.1⟩
  exact wpAny_mono (h c φ _ rfl rfl rfl rfl hφ H r.deeper) (fun fl s' x => x) fun _ _ x => x.elim
theorem enter {n : Nat} {f : Addr} {args : List Value} {name qual : Str} {params : Arguments} {body : List Stmt} {scope : Scope} {dV kV doc pm cdv ct oc : Value} {an od : Option Addr} {osl : Array (Option Value)} {binds : List (Str × Value)}
    (G : Gd K g0 P) (I : Inv g0 P s) (r : Rm A (n + 1)) (D : List (Addr × Obj)) (hD : ∀ p ∈ D, s.heap.get? p.1 = some p.2 ∧ g0.objs.size ≤ p.1) (nD : (D.map (·.1)).Nodup)
    (ho : K.lookup f = some ⟨oc, od, .func (fnOf name qual params body scope dV kV doc pm an cdv ct), osl⟩) (hcd : codeIn K cdv qual = true)
    (hbind : BindsTo s (fnOf name qual params body scope dV kV doc pm an cdv ct) ⟨args, []⟩ binds)
    {m : List (Str × Value)} {Ds : List Addr} (hm : binds.reverse = m) (hDs : D.map (·.1) = Ds)
    (h : ∀ (c : Cx) φ s₁, c.g0 = g0 → c.P = P → c.s0 = s → c.D = Ds → (∀ b o, φ b = some o ↔ (s.heap.get? b = some o ∧ b ∉ Ds ∧ b ≠ P)) → St c φ m D s₁ → Rm (A.deeper (envOf qual scope c.L f cdv)) n →
      wpAny (model PG w) (A.deeper (envOf qual scope c.L f cdv)) (execs body (envOf qual scope c.L f cdv)) (fun fl s' => Q (match fl with | .ret v => v | _ => .none) s') NoE s₁)
    (hloc : (binds.all fun x => decide (scope.names.lookup x.1 = some .local)) = true) (hcell : (scope.names.all fun x => decide (x.2 ≠ .cell)) = true)
    (hco : scope.isCoroutine = false := by rfl) (hgen : scope.isGenerator = false := by rfl) (hk : scope.kind = .function := by rfl) :
    wpAny (model PG w) A (call (.ref f) args) Q NoE s := by
  exact wpAny_call (codeAny_mono (enterC G I r D hD nD ho hcd hbind hm hDs h hloc hcell hco hgen hk) fun r s' z => by
    rcases r with e | (v | _ | _ | _) <;> first | exact z | exact z.elim)
end
inductive Lk : List (Str × Value) → Str → Value → Prop
  | here {m x v} : Lk ((x, v) :: m) x v
  | there {m x y v u} : (x == y) = false → Lk m x v → Lk ((y, u) :: m) x v
theorem Lk.eq {m : List (Str × Value)} {x : Str} {v : Value} (h : Lk m x v) : m.lookup x = some v := by
  induction h with
  | here => simp
  | there e _ ih => rw [List.lookup_cons, e]; exact ih

theorem sp_cons {M : Model} {A : Around} {E : Value → Shared → Prop} {s : Shared} {env : Env} {pos : Pos} {e : Expr} {rest : List Expr} {Q : List Value → Shared → Prop}
    (h : wpAny M A (eval e env) (fun v s₁ => wpAny M A (spliced (backTo pos (starEach rest env))) (fun vs s₂ => Q (v :: vs) s₂) E s₁) E s)
    (he : starEach (e :: rest) env = (false, eval e env) :: starEach rest env) : wpAny M A (spliced (backTo pos (starEach (e :: rest) env))) Q E s := by
  rw [he]; exact Calls.spliced_cons h
theorem sp_nil {M : Model} {A : Around} {E : Value → Shared → Prop} {s : Shared} {env : Env} {pos : Pos} {Q : List Value → Shared → Prop} (h : Q [] s) : wpAny M A (spliced (backTo pos (starEach [] env))) Q E s := Calls.spliced_nil h

theorem ite_two {c : Prop} [Decidable c] {a b : Prop} (h1 : c → a) (h2 : ¬ c → b) : if c then a else b := by
  by_cases h : c
  · rw [if_pos h]; exact h1 h
  · rw [if_neg h]; exact h2 h

section
variable {K : Frag} {P : Addr} {w : World} {A : Around} {c : Cx} {φ : Fz} {m : List (Str × Value)} {R : List (Addr × Obj)} {s : Shared} {q : Str} {sc : Scope} {f : Addr} {cd : Value} {x : Str} {pos : Pos} {v : Value}

theorem r_loc {Q : Value → Shared → Prop} (H : St c φ m R s) (hv : Lk m x v) (h : Q v s)
    (hk : sc.kind = .function := by kernel_rfl!) (hx : sc.names.lookup x = some .local := by kernel_rfl!) (hd : (x == ("__debug__" : Str)) = false := by kernel_rfl!) :
    wpAny (model PG w) A (eval (.Name x pos) (envOf q sc c.L f cd)) Q NoE s :=
  wpAny_Name (wpAny_loadName_local (env := envOf q sc c.L f cd) hk hx H.ns hv.eq h) hd
theorem r_glob {Q : Value → Shared → Prop} (H : St c φ m R s) (G : Gd K c.g0 P) (e : nsIn K mainGlobals x = some (some v)) (h : Q v s)
    (hk : sc.kind = .function := by kernel_rfl!) (hx : sc.names.lookup x = some .globalImplicit := by kernel_rfl!) (hd : (x == ("__debug__" : Str)) = false := by kernel_rfl!) :
    wpAny (model PG w) A (eval (.Name x pos) (envOf q sc c.L f cd)) Q NoE s := by
  obtain ⟨mg, h1, h2⟩ := H.glob G e
  exact Name_function_global hk hx (loadGlobal_global (env := envOf q sc c.L f cd) h1 h2 h) hd
theorem r_bi {Q : Value → Shared → Prop} (H : St c φ m R s) (G : Gd K c.g0 P) (e : nsIn K mainGlobals x = some none) (hv : bootBuiltins x = some v) (h : Q v s)
    (hn : (x == ("__name__" : Str)) = false := by kernel_rfl!) (hk : sc.kind = .function := by kernel_rfl!) (hx : sc.names.lookup x = some .globalImplicit := by kernel_rfl!) (hd : (x == ("__debug__" : Str)) = false := by kernel_rfl!) :
    wpAny (model PG w) A (eval (.Name x pos) (envOf q sc c.L f cd)) Q NoE s := by
  obtain ⟨p, loose, mg, mb, T⟩ := G.T
  have hn' : x ≠ "__name__" := fun z => by rw [z] at hn; simp at hn
  exact Name_function_global hk hx (loadGlobal_builtin (env := envOf q sc c.L f cd) (T.g.keeps H.inv.top) (mg_none_of G.X T.g e) (T.b.keeps H.inv.top) ((T.builtins x hn').trans hv) h) hd
theorem r_str {env : Env} {k : Nat} {y : Str} {Q : Value → Shared → Prop} (H : St c φ m R s) (h : ∀ t s', St c φ m R s' → Q (.str y t) s') : wpAny (model PG w) A (eval (.Constant (.str y) k pos) env) Q NoE s :=
  Calls.Constant_str (h _ _ (H.toks _))
theorem r_int {env : Env} {k : Nat} {i : Int} {Q : Value → Shared → Prop} (H : St c φ m R s) (h : ∀ t s', St c φ m R s' → Q (.int i t) s') : wpAny (model PG w) A (eval (.Constant (.int i) k pos) env) Q NoE s :=
  wpAny_Constant_int (h _ _ (H.toks _))
theorem r_store {Q : Unit → Shared → Prop} (H : St c φ m R s) (h : ∀ s', St c φ ((x, v) :: m) R s' → Q () s')
    (hk : sc.kind = .function := by kernel_rfl!) (hx : sc.names.lookup x = some .local := by kernel_rfl!) : wpAny (model PG w) A (storeName (envOf q sc c.L f cd) x v) Q NoE s :=
  wpAny_storeName_local (env := envOf q sc c.L f cd) hx H.ns (fun _ hn hs => h _ (H.store hn hs)) (by show (sc.kind == .class || (sc.kind == .module && c.L != mainGlobals)) = false; rw [hk]; rfl)
theorem r_add_str {y : Str} {t u : Tok} {z : Str} {Q : Value → Shared → Prop} (H : St c φ m R s) (hz : z.length + y.length ≤ sizeLine) (h : ∀ t s', St c φ m R s' → Q (.str (z ++ y) t) s') :
    wpAny (model PG w) A (binaryOp .Add (.str z t) (.str y u)) Q NoE s := add_str (fun t' k => h _ _ (H.toks k)) hz
theorem r_ord {z : Str} {t : Tok} {Q : Value → Shared → Prop} (H : St c φ m R s) (hz : z.length = 1) (h : ∀ t s', St c φ m R s' → Q (.int (z.cps.getD 0 0 : Nat) t) s') :
    wpAny (model PG w) A (call (.builtin "ord") [.str z t]) Q NoE s := ord_of_one hz (h _ _ (H.toks _))
end
theorem name_bi {K : Frag} {g0 : Heap} {P : Addr} {w : World} {A : Around} {env : Env} {s : Shared} {x : Str} {pos : Pos} {v : Value} {Q : Value → Shared → Prop} {E : Value → Shared → Prop} (G : Gd K g0 P)
    (hg : ∀ b o, g0.get? b = some o → s.heap.get? b = some o) (e : nsIn K mainGlobals x = some none) (hv : bootBuiltins x = some v) (h : Q v s)
    (hgl : env.globals = mainGlobals) (hbn : env.builtins = builtinsNs)
    (hn : (x == ("__name__" : Str)) = false) (hk : env.scope.kind = .function) (hx : env.scope.names.lookup x = some .globalImplicit) (hd : (x == ("__debug__" : Str)) = false) :
    wpAny (model PG w) A (eval (.Name x pos) env) Q E s := by
  obtain ⟨p, loose, mg, mb, T⟩ := G.T
  have hn' : x ≠ "__name__" := fun z => by rw [z] at hn; simp at hn
  exact Name_function_global hk hx (loadGlobal_builtin (env := env) (hgl ▸ T.g.keeps hg) (mg_none_of G.X T.g e) (hbn ▸ T.b.keeps hg) ((T.builtins x hn').trans hv) h) hd
theorem name_loc {w : World} {A : Around} {env : Env} {s : Shared} {x : Str} {pos : Pos} {v : Value} {m : Str → Option Value} {Q : Value → Shared → Prop} {E : Value → Shared → Prop}
    (hn : s.heap.Ns env.locals m) (hm : m x = some v) (h : Q v s) (hk : env.scope.kind = .function) (hx : env.scope.names.lookup x = some .local) (hd : (x == ("__debug__" : Str)) = false) :
    wpAny (model PG w) A (eval (.Name x pos) env) Q E s := wpAny_Name (wpAny_loadName_local (env := env) hk hx hn hm h) hd
theorem passing_all (n : Nat) : passing (fun _ => true) n 0 = List.range n := by simp [passing]

section
variable {K : Frag} {P : Addr} {w : World} {A : Around} {c : Cx} {φ : Fz} {m : List (Str × Value)} {R : List (Addr × Obj)} {s : Shared} {q : Str} {sc gsc : Scope} {f : Addr} {x : Str} {pos px : Pos} {v : Value} {elt iter : Expr}

/-- what a genexpr over a text's signs yields, glued -/
theorem r_genjoin {n : Nat} {z : Str} {t0 : Tok} {pc : Nat → Str} {Q : Value → Shared → Prop} (G : Gd K c.g0 P) (hP : P = c.P) (H : St c φ m R s) (r : Rm A n) (hz : z.length ≤ 1048576)
    (hok : JoinOk (Str.ofString "") (z.cps.toList.map pc) = true)
    (hit : ∀ Q' : Value → Shared → Prop, Q' (.str z t0) s → wpAny (model PG w) A (eval iter (envOf q sc c.L f (.ref cN))) Q' NoE s)
    (hE : ∀ (A' : Around) E' (k : Nat) (u : Tok) (s₂ : Shared) (C : Addr) (code : Value) m₂, A'.handled = none → s₂.heap.Ns C m₂ → m₂ x = some (.str ⟨#[k]⟩ u) → (∀ b o, c.g0.get? b = some o → s₂.heap.get? b = some o) →
      wpAny (model PG w) A' (eval elt (genEnv gsc [] C code builtinsNs (envOf q sc c.L f (.ref cN)))) (fun y s₃ => (∃ u', y = .str (pc k) u') ∧ Keeps s₂ s₃) E' s₂)
    (hQ : ∀ a s₅, St c φ m R s₅ → (∀ (t : Tok) (Q' : Value → Shared → Prop), (∀ t' s', St c φ m R s' → Q' (.str (Txt.join (Str.ofString "") (z.cps.toList.map pc)) t') s') → wpAny (model PG w) A (call (.builtin "str.join") [.str (Str.ofString "") t, .ref a]) Q' NoE s₅) → Q (.ref a) s₅)
    (hco : gsc.isCoroutine = false) (hclos : closureFor gsc (envOf q sc c.L f (.ref cN)) = pure []) (hcell : (gsc.names.all fun y => decide (y.2 ≠ .cell)) = true) (h0 : gsc.names.lookup (".0" : Str) = some NameKind.local) (hx : gsc.names.lookup x = some .local) (hkind : gsc.kind = .function)
    (hs : ∀ x, genFold iter (envOf q sc c.L f (.ref cN)) x = pure x) :
    wpAny (model PG w) A (eval (.GeneratorExp elt [⟨.Name x px, iter, [], 0⟩] gsc pos) (envOf q sc c.L f (.ref cN))) Q NoE s := by
  subst hP
  obtain ⟨p, loose, mg, mb, T⟩ := G.T
  obtain ⟨mgB, bm, ob, hB1, hB2, hB3, hB4, hB5, hB6, hB7⟩ := G.B
  have nP : ∀ b o, c.g0.get? b = some o → b ≠ c.P := fun b o e z => by have := H.top _ _ (z ▸ e); rw [H.Pφ] at this; cases this
  refine wpAny_GeneratorExp_walksQ r.hh hco hclos (fun y hy => of_decide_eq_true (List.all_eq_true.mp hcell y hy)) h0 hx hkind r.room (hit _ (wpAny_pyIter_str fun o St₀ W hst => ?_)) hs
  have kp : ∀ b o', s.heap.get? b = some o' → (s.heap.push o).get? b = some o' := fun b o' e => Heap.get?_push_of_some _ e
  have H2 : St c φ m R { s with heap := s.heap.push o } := H.since rfl H.bare (fun b o' _ e => kp b o' e) (H.tab.keeps kp)
  have hlim : ∀ h' : Heap, (∀ b o, c.g0.get? b = some o → h'.get? b = some o) → h'.NoLimit := fun h' k => T.nolimit.keeps k
  have hz2 : (s.heap.push o).objs.size = s.heap.objs.size + 1 := Heap.size_push _ _
  have hcst : cStatics < c.g0.objs.size := let ⟨_, hn, _⟩ := T.nolimit; hn.lt
  have hgl : c.g0.objs.size ≤ s.heap.objs.size := H.inv.size
  refine ⟨hlim _ H2.inv.top, ?_⟩
  -- behind the code object
  have next : ∀ (code : Value) (h₃ : Heap) (tk₃ : Nat), Heap.ExtBut c.P (s.heap.push o) h₃ → Tab c.P h₃ → (s.heap.push o).objs.size ≤ h₃.objs.size →
      wpAny (model PG w) A (builtinsFor (envOf q sc c.L f (.ref cN)).globals (envOf q sc c.L f (.ref cN)).builtins) (fun bi s₄ =>
        ∃ I fp wr n₀ P' St₀' pz F, Value.ref s.heap.objs.size = .ref I ∧ (∀ A' : Around, A'.handled = none → Walks PG w A' I fp wr n₀ P' St₀') ∧ St₀' 0 s₄.heap ∧ (∀ b ∈ fp, b < s₄.heap.objs.size) ∧ s₄.heap.NoLimit ∧ cStatics ∉ wr ∧
          (∀ href : Heap, (∀ b o, s₄.heap.get? b = some o → href.get? b = some o) →
            QuietGen PG w (genEnv gsc [] s₄.heap.objs.size code bi (envOf q sc c.L f (.ref cN))) x [] elt (List.range s₄.heap.objs.size) wr P' pz F href) ∧
          (∀ a h₅ tk gs, gs.bare = true → s₄.heap.objs.size < a → h₅.objs.size = a + 1 → (∀ b o, s₄.heap.get? b = some o → h₅.get? b = some o) →
            WalksS PG w A.in4 a (a :: s₄.heap.objs.size :: List.range s₄.heap.objs.size) (s₄.heap.objs.size :: wr) (GenOnlyQ s₄.gens.size) (passing pz n₀ 0).length
              (fun j y => ∃ i, (passing pz n₀ 0)[j]? = some i ∧ F i y) (GenAt PG w A.in4 a s₄.gens.size s₄.heap.objs.size (List.range s₄.heap.objs.size) wr pz n₀ F) →
            GenAt PG w A.in4 a s₄.gens.size s₄.heap.objs.size (List.range s₄.heap.objs.size) wr pz n₀ F 0 { s₄ with gens := s₄.gens.push gs, toks := tk, heap := h₅ } →
            Q (.ref a) { s₄ with gens := s₄.gens.push gs, toks := tk, heap := h₅ })) NoE { s with heap := h₃, toks := tk₃ } := by
    intro code h₃ tk₃ hx₃ ht₃ hsz₃
    have keep₃ : ∀ b o', b ≠ c.P → s.heap.get? b = some o' → h₃.get? b = some o' := fun b o' hb e => hx₃ b o' hb (kp b o' e)
    have g₃ : ∀ b o', c.g0.get? b = some o' → h₃.get? b = some o' := fun b o' e => keep₃ b o' (nP b o' e) (H.inv.top b o' e)
    refine wpAny_builtinsFor (hB1.keeps g₃) hB2 hB3 (g₃ _ _ hB4) hB5 hB6 hB7 ?_
    have hPI : c.P ≠ s.heap.objs.size := fun e => Nat.lt_irrefl _ (Nat.lt_of_lt_of_le (e ▸ H.Plt) hgl)
    refine ⟨s.heap.objs.size, [s.heap.objs.size], [s.heap.objs.size], z.cps.size, SignAt z, St₀, fun _ => true, (fun i y => ∃ k, z.cps[i]? = some k ∧ ∃ u, y = .str (pc k) u), rfl, W, ?_, ?_, hlim _ g₃, ?_, ?_, ?_⟩
    · exact (W A r.hh).frame _ _ _ hst fun b hb o' e => hx₃ b o' (by rw [List.mem_singleton.mp hb]; exact Ne.symm hPI) e
    · intro b hb
      rw [List.mem_singleton.mp hb]
      show s.heap.objs.size < h₃.objs.size
      lia
    · intro hm
      have := List.mem_singleton.mp hm
      exact Nat.lt_irrefl _ (Nat.lt_of_lt_of_le (this ▸ hcst) hgl)
    · intro href hk
      refine ⟨fun A' E' i v s₂ m₂ hA hPv hn hm _ => wpAny_pure ⟨rfl, _, _, rfl, fun _ _ e => e⟩, fun A' E' i v s₂ m₂ hA hPv _ hn hm hk₂ => ?_⟩
      obtain ⟨k, u, hk1, rfl⟩ := hPv
      refine wpAny_mono (hE A' E' k u s₂ _ code m₂ hA hn hm fun b o' e => ?_) (fun y s₃ hy => ⟨⟨k, hk1, hy.1⟩, hy.2⟩) fun _ _ e => e
      have e3 := g₃ b o' e
      refine hk₂ b (List.mem_range.mpr (Heap.lt_size e3)) (fun hm' => ?_) o' (hk b o' e3)
      have h1 : b = s.heap.objs.size := List.mem_singleton.mp hm'
      exact Nat.lt_irrefl _ (Nat.lt_of_lt_of_le (h1 ▸ Heap.lt_size e) hgl)
    · intro a h₅ tk gs hgb ha hsz₅ hk₅ WS hat
      have keep₅ : ∀ b o', b ≠ c.P → s.heap.get? b = some o' → h₅.get? b = some o' := fun b o' hb e => hk₅ b o' (keep₃ b o' hb e)
      have ht₅ : Tab c.P h₅ := ht₃.keeps hk₅
      have b₅ : AllBare (s.gens.push gs) := H.bare.push hgb
      refine hQ a _ (H.since rfl b₅ keep₅ ht₅) fun t Q' hQ' => ?_
      have hpass : passing (fun _ => true) z.cps.size 0 = List.range z.cps.size := passing_all _
      rw [hpass, List.length_range] at WS
      refine SC.joinGen WS.in4_2 (fun i s' st => st.1.typeIs) hat ?_ (List.mem_cons_self ..) (fun i v hv => ?_) (fun s' lt hm hacc => ?_) (Nat.le_trans (show z.cps.size ≤ 1048576 from hz) (by decide))
      · intro b hb
        show b < h₅.objs.size
        rw [hsz₅]
        rcases List.mem_cons.mp hb with rfl | hb
        · exact Nat.lt_succ_self _
        · rcases List.mem_cons.mp hb with rfl | hb
          · exact Nat.lt_succ_of_lt ha
          · exact Nat.lt_succ_of_lt (Nat.lt_trans (List.mem_range.mp hb) ha)
      · obtain ⟨_, _, k, _, u, rfl⟩ := hv
        exact ⟨_, u, rfl⟩
      · have hl : lt.map (·.1) = z.cps.toList.map pc := by
          apply List.ext_getElem?
          intro j
          have hsz : lt.length = z.cps.size := by simpa [strValues] using hacc.1
          by_cases hj : j < z.cps.size
          · have hj' : j < lt.length := hsz ▸ hj
            obtain ⟨i, hi, k, hk, u, hv⟩ := hacc.2 j (.str lt[j].1 lt[j].2) (by simp [strValues, List.getElem?_eq_getElem hj'])
            have hij : i = j := by
              rw [List.getElem?_eq_getElem (by simpa using hj)] at hi
              simpa using hi.symm
            subst hij
            injection hv with h1 _
            simp [List.getElem?_eq_getElem hj', h1, hk]
          · rw [List.getElem?_eq_none (by simpa [hsz] using Nat.le_of_not_lt hj), List.getElem?_eq_none (by simpa using Nat.le_of_not_lt hj)]
        rw [hl]
        refine ⟨hok, fun t' k => hQ' t' _ ?_⟩
        have lo : ∀ b ∈ [h₃.objs.size, s.heap.objs.size], s.heap.objs.size ≤ b := by
          intro b hb
          rcases List.mem_cons.mp hb with rfl | hb
          · lia
          · rw [List.mem_singleton.mp hb]; exact Nat.le_refl _
        have km : ∀ b o', b < s.heap.objs.size → h₅.get? b = some o' → s'.heap.get? b = some o' := fun b o' hb e => hm.heap b o' (fun hmm => Nat.lt_irrefl _ (Nat.lt_of_lt_of_le hb (lo b hmm))) e
        have hclt := H.clt
        have hPlt := H.Plt
        refine H.since (s' := { s' with toks := k }) hm.os (AllBare.moved (b := s'.gens) b₅ hm.gens) (fun b o' hb e => km b o' (Heap.lt_size e) (keep₅ b o' hb e)) (ht₅.of (fun o' e => km _ o' (Nat.lt_of_lt_of_le hclt hgl) e) fun o' e => km _ o' (Nat.lt_of_lt_of_le hPlt hgl) e)
  obtain ⟨ps, ic, ta⟩ := H2.tab
  cases hf : codeAmong pos ps.toList with
  | some cv => exact wpAny_genexprCode_hit (env := envOf q sc c.L f (.ref cN)) rfl ic hf (next cv _ s.toks (Heap.ExtBut.refl _ _) H2.tab (Nat.le_refl _))
  | none => exact wpAny_genexprCodeX (env := envOf q sc c.L f (.ref cN)) rfl ic ta hf fun c' h₃ tk hx₃ hge hlt ic' _ ta' _ => next _ h₃ tk hx₃ ⟨_, ic', ta'⟩ (Nat.le_trans hge (Nat.le_of_lt hlt))
end
theorem slice_take (x : Str) (n : Nat) : Txt.slice x none (some (n : Int)) = ⟨(x.cps.toList.take n).toArray⟩ := by
  have e : Builtin.Str.strSliceIndices none (some (n : Int)) 1 x.length = Builtin.Str.strSliceIndices (some ((0 : Nat) : Int)) (some ((min n x.length : Nat) : Int)) 1 x.length := by
    unfold Builtin.Str.strSliceIndices
    have h1 : ¬ ((n : Int) < 0) := by lia
    have h2 : ¬ (((min n x.length : Nat) : Int) < 0) := by lia
    simp only [h1, h2, if_false, show ((1 : Int) > 0) = True from by simp, if_true]
    congr 1 <;> lia
  unfold Txt.slice
  split
  · rename_i h
    rw [e, StrLaws.strSliceIndices_plain (Nat.zero_le _) (Nat.min_le_right ..)] at h
    simp at h
    have hl : x.cps.toList.length ≤ n := by simp [Str.length] at h ⊢; lia
    rw [List.take_of_length_le hl]
  · rw [e, StrLaws.sliced_plain x (Nat.zero_le _) (Nat.min_le_right ..)]
    congr 2
    rw [List.drop_zero, Nat.sub_zero]
    by_cases h : n ≤ x.length
    · rw [Nat.min_eq_left h]
    · have h' : x.cps.toList.length ≤ n := by simp [Str.length] at h ⊢; lia
      rw [Nat.min_eq_right (by lia), List.take_of_length_le h', List.take_of_length_le (by simp [Str.length])]
theorem slice_drop (x : Str) (n : Nat) : Txt.slice x (some (n : Int)) none = ⟨(x.cps.toList.drop n).toArray⟩ := by
  have e : Builtin.Str.strSliceIndices (some (n : Int)) none 1 x.length = Builtin.Str.strSliceIndices (some ((min n x.length : Nat) : Int)) (some (x.length : Int)) 1 x.length := by
    unfold Builtin.Str.strSliceIndices
    have h1 : ¬ ((n : Int) < 0) := by lia
    have h2 : ¬ (((min n x.length : Nat) : Int) < 0) := by lia
    have h3 : ¬ ((x.length : Int) < 0) := by lia
    simp only [h1, h2, h3, if_false, show ((1 : Int) > 0) = True from by simp, if_true]
    congr 1 <;> lia
  unfold Txt.slice
  split
  · rename_i h
    rw [e, StrLaws.strSliceIndices_plain (Nat.min_le_right ..) (Nat.le_refl _)] at h
    simp at h
    have : n = 0 ∨ x.length = 0 := by lia
    rcases this with rfl | h0
    · simp
    · have : x.cps = #[] := Array.size_eq_zero_iff.mp h0
      rcases x with ⟨c⟩; simp at this; subst this; simp
  · rw [e, StrLaws.sliced_plain x (Nat.min_le_right ..) (Nat.le_refl _)]
    congr 2
    by_cases h : n ≤ x.length
    · rw [Nat.min_eq_left h, List.take_of_length_le (by simp [Str.length])]
    · have h' : x.cps.toList.length ≤ n := by simp [Str.length] at h ⊢; lia
      rw [Nat.min_eq_right (by lia), List.drop_of_length_le h', List.drop_of_length_le (by simp [Str.length]), List.take_nil]
theorem item_at (x : Str) (n : Nat) (h : n < x.cps.toList.length) : Txt.item x (n : Int) = ⟨#[x.cps.toList[n]]⟩ := by
  have h2 : n < x.length := by simpa [Str.length] using h
  have h2' : n < x.cps.size := h2
  have h3 : ¬ ((n : Int) < 0) := by lia
  have h4 : (n : Int) < (x.length : Int) := by lia
  simp [Txt.item, Txt.charAt, seqIndex?, h3, h4, h2']

def S (l : List Nat) : Str := ⟨l.toArray⟩
def TupO (o : Obj) (its : Array Value) : Prop := o.cls = .type "tuple" ∧ ∃ n, o.data = .seq its n
def LstO (o : Obj) (its : Array Value) : Prop := o.cls = .type "list" ∧ ∃ n, o.data = .seq its n
/-- 'in' a tuple of texts -/
def keyIs : Value → Value → Bool
  | .str a _, .str z _ => z == a
  | _, _ => false

section
variable {K : Frag} {P : Addr} {w : World} {A : Around} {c : Cx} {φ : Fz} {m : List (Str × Value)} {R : List (Addr × Obj)} {s : Shared} {q : Str} {sc : Scope} {f : Addr} {cd : Value} {x : Str} {pos : Pos} {v : Value} {t : Tok}

theorem St.fn (H : St c φ m R s) (G : Gd K c.g0 P) {a : Addr} {o : Obj} (h : K.lookup a = some o) : s.heap.get? a = some o := H.kIn G _ _ h
theorem St.keptH (_H : St c φ m R s) : KeptH (fun h => (∀ b o, s.heap.get? b = some o → h.get? b = some o)) := fun _ _ k b o e => Heap.get?_push_of_some _ (k b o e)
theorem St.grown (H : St c φ m R s) {h' : Heap} {k : Nat} (hk : ∀ b o, s.heap.get? b = some o → h'.get? b = some o) : St c φ m R { s with heap := h', toks := k } :=
  H.since rfl H.bare (fun b o _ e => hk b o e) (H.tab.keeps hk)

theorem r_item {l : List Nat} {i : Int} (n : Nat) {value slice : Expr} {u : Tok} {Q : Value → Shared → Prop} (H : St c φ m R s) (hi : i = (n : Int)) (h1 : n < l.length) (h2 : n < 9223372036854775808)
    (h : ∀ t' s', St c φ m R s' → Q (.str (S [l[n]]) t') s')
    (hs : ∀ x, subscripted slice false (.str x t) (.int i u) = operate [.str x t, .int i u] (getItem (.str x t) (.int i u)))
    (ht : ∀ x r, letTemporaryGo value (.str x t) r = pure ()) :
    wpAny (model PG w) A (subscriptTail value slice (.str (S l) t) (.int i u)) Q NoE s := by
  subst hi
  have hl : (S l).length = l.length := by simp [S, Str.length]
  exact item_str (fitsSsize_of (N := 9223372036854775808) (by lia) (by lia) (Int.le_refl _)) (by lia) (by lia) (fun _ => by rw [item_at (S l) n (by simpa [S] using h1)]; exact h _ _ (H.toks _)) (hs _) (ht _)
theorem r_take {l : List Nat} {i : Int} (n : Nat) {value slice : Expr} {u : Tok} {Q : Value → Shared → Prop} (H : St c φ m R s) (hi : i = (n : Int)) (hsz : l.length ≤ 16777216) (h : ∀ t' s', St c φ m R s' → Q (.str (S (l.take n)) t') s')
    (hs : ∀ x a, subscripted slice false (.str x t) (.ref a) = operate [.ref a, .str x t] (getItem (.str x t) (.ref a)))
    (ht : ∀ x r, letTemporaryGo value (.str x t) r = pure ()) :
    wpAny (model PG w) A (subscriptTail value slice (.str (S l) t) (.ref s.heap.objs.size)) Q NoE { s with heap := s.heap.push { cls := .type "slice", data := .fields #[.none, .int i u, .none] } } := by
  subst hi
  exact tail_of_ItemOn (SBH.sliceItem_ns H.keptH (fun _ _ e => e) (fun h' t' k hk => by rw [slice_take (S l) n]; exact h _ _ (H.grown hk)) (Nat.le_trans (by simpa [S, Str.length] using hsz) (by decide : 16777216 ≤ sizeLine))) (hs _ _) (ht _)
theorem r_drop {l : List Nat} {i : Int} (n : Nat) {value slice : Expr} {u : Tok} {Q : Value → Shared → Prop} (H : St c φ m R s) (hi : i = (n : Int)) (hsz : l.length ≤ 16777216) (h : ∀ t' s', St c φ m R s' → Q (.str (S (l.drop n)) t') s')
    (hs : ∀ x a, subscripted slice false (.str x t) (.ref a) = operate [.ref a, .str x t] (getItem (.str x t) (.ref a)))
    (ht : ∀ x r, letTemporaryGo value (.str x t) r = pure ()) :
    wpAny (model PG w) A (subscriptTail value slice (.str (S l) t) (.ref s.heap.objs.size)) Q NoE { s with heap := s.heap.push { cls := .type "slice", data := .fields #[.int i u, .none, .none] } } := by
  subst hi
  exact tail_of_ItemOn (SBH.sliceItem_sn H.keptH (fun _ _ e => e) (fun h' t' k hk => by rw [slice_drop (S l) n]; exact h _ _ (H.grown hk)) (Nat.le_trans (by simpa [S, Str.length] using hsz) (by decide : 16777216 ≤ sizeLine))) (hs _ _) (ht _)

theorem r_tuple {vs : List Value} {Q : Value → Shared → Prop} (H : St c φ m R s) (hl : vs.length ≤ 16777216) (h : ∀ a o s', TupO o vs.toArray → St c φ m ((a, o) :: R) s' → Q (.ref a) s') : wpAny (model PG w) A (newTuple vs) Q NoE s :=
  wpAny_newObj_type (h _ _ _ ⟨rfl, _, rfl⟩ (H.push _ s.toks))
theorem r_list {vs : List Value} {Q : Value → Shared → Prop} (H : St c φ m R s) (hl : vs.length ≤ 16777216) (h : ∀ a o s', LstO o vs.toArray → St c φ m ((a, o) :: R) s' → Q (.ref a) s') : wpAny (model PG w) A (newList vs) Q NoE s :=
  wpAny_newObj_type (h _ _ _ ⟨rfl, _, rfl⟩ (H.push _ s.toks))
theorem St.isTup (H : St c φ m R s) {a : Addr} {o : Obj} {its : Array Value} (ho : (a, o) ∈ R) (h : TupO o its) : s.heap.IsTuple a its := ⟨o, (H.led _ ho).1, h⟩
theorem St.isLst (H : St c φ m R s) {a : Addr} {o : Obj} {its : Array Value} (ho : (a, o) ∈ R) (h : LstO o its) : s.heap.IsList a its := ⟨o, (H.led _ ho).1, h⟩
theorem St.fzLst (H : St c φ m R s) {a : Addr} {o : Obj} {its : Array Value} (ho : φ a = some o) (h : LstO o its) : s.heap.IsList a its := ⟨o, H.fz _ _ ho, h⟩
theorem St.fzTup (H : St c φ m R s) {a : Addr} {o : Obj} {its : Array Value} (ho : φ a = some o) (h : TupO o its) : s.heap.IsTuple a its := ⟨o, H.fz _ _ ho, h⟩
def StrOrNone : Value → Prop
  | .str _ _ => True
  | .none => True
  | _ => False
theorem eqAt_key {A : Around} {s : Shared} {y x : Value} (hy : ∃ z t, y = .str z t) (hx : StrOrNone x) : SeqAt.EqAt A s y x (keyIs x y) := by
  obtain ⟨z, t, rfl⟩ := hy
  cases x with
  | str a u => exact SeqAt.EqAt.str_str z t a u
  | none => exact SeqAt.EqAt.str_none z t
  | _ => exact absurd hx id
theorem r_in_tuple {a : Addr} {o : Obj} {vs : List Value} {Q : Value → Shared → Prop} (H : St c φ m ((a, o) :: R) s) (ho : TupO o vs.toArray) (hv : StrOrNone v) (hs : ∀ y ∈ vs, ∃ z t, y = .str z t)
    (h : St c φ m R s → Q (.bool (vs.any (keyIs v))) s) : wpAny (model PG w) A (compareOp .In v (.ref a)) Q NoE s :=
  SeqAt.in_tupleAt (keyIs v) (H.isTup (.head _) ho) (fun y hy => eqAt_key (hs y (by simpa using hy)) hv) (by rw [List.any_toArray]; exact h (H.tail 1))
abbrev Alive (c : Cx) (φ : Fz) (s : Shared) : Prop := ∃ m R, St c φ m R s
abbrev AliveG (c : Cx) (s : Shared) : Prop := ∃ φ m R, St c φ m R s
theorem Alive.of (H : St c φ m R s) : Alive c φ s := ⟨_, _, H⟩
theorem AliveG.of (H : St c φ m R s) : AliveG c s := ⟨_, _, _, H⟩
theorem r_call {o : Obj} {fd : FuncData} {e : Expr} {rest : List Expr} {env : Env} {Q : Value → Shared → Prop} (_H : St c φ m R s) (G : Gd K c.g0 P) (ho : K.lookup f = some o) (hd : o.data = .func fd)
    (he : starEach (e :: rest) env = (false, eval e env) :: starEach rest env)
    (h : wpAny (model PG w) A (spliced (backTo pos (starEach (e :: rest) env))) (fun vs s₁ => Alive c φ s₁ ∧ wpAny (model PG w) A (call (.ref f) vs) Q NoE s₁) NoE s) :
    wpAny (model PG w) A (callWith pos (.ref f) [] (backTo pos (starEach (e :: rest) env)) []) Q NoE s :=
  PyProof.Rows.callWith_def hd (wpAny_mono h (fun _ _ ⟨⟨_, _, H'⟩, z⟩ => ⟨H'.fn G ho, z⟩) fun _ _ z => z) he
theorem r_call0 {o : Obj} {fd : FuncData} {env : Env} {Q : Value → Shared → Prop} (H : St c φ m R s) (G : Gd K c.g0 P) (ho : K.lookup f = some o) (hd : o.data = .func fd)
    (h : wpAny (model PG w) A (call (.ref f) []) Q NoE s) :
    wpAny (model PG w) A (callWith pos (.ref f) [] (backTo pos (starEach [] env)) []) Q NoE s :=
  callWith_function (o := o) (fd := fd) (PyProof.Rows.evalArgs_none ⟨⟨H.fn G ho, hd⟩, h⟩)
end
section
open Builtin Builtin.Str
/-- figures by sixteen, large letters -/
def hexN (n : Nat) : List Nat := ((Nat.toDigits 16 n).map Char.toNat).map fun c => if isAsciiLower c then c - 32 else c
theorem percentInt_hex (f : Percent) (h1 : f.alt = false) (h2 : f.type = 88) (h3 : f.prec = none) {n : Nat} : percentInt f (decide ((n : Int) < 0)) ((Nat.toDigits 16 (n : Int).natAbs).map Char.toNat) = hexN n := by
  have hneg : decide ((n : Int) < 0) = false := decide_eq_false (by lia)
  unfold percentInt hexN
  simp [h1, h2, h3, hneg]
theorem hexN_len {n : Nat} (hn : n < 16 ^ 8) : (hexN n).length ≤ 8 := by
  unfold hexN
  rw [List.length_map, List.length_map]
  exact StrLaws.toDigits_len (by decide) hn
theorem hex_S (l : List Nat) : (⟨l.toArray⟩ : Str) = S l := rfl
theorem after_S {l : List Nat} {T : List Nat} {N k : Nat} {wr : Writer} {ll : List Nat} {p : List Value} {r : List Nat} {f : Nat → List Value × Writer × List Nat → Sem (ForInStep (List Value × Writer × List Nat))} {Q : List Value × Writer × List Nat → Shared → Prop}
    {M : Model} {A : Around} {E : Value → Shared → Prop} {s : Shared} (g : KPc.Good wr (S T) N) (hl : l.length ≤ k) (h : ∀ w', KPc.Good w' (S (T ++ l)) (N + k) → wpAny M A (forIn ll (p, w', r) f) Q E s) : wpAny M A (forIn ll (p, wr.add ⟨l.toArray⟩ none, r) f) Q E s := by
  have e := KPc.good_add g (x := ⟨l.toArray⟩) (o := none) (KPc.obj_none rfl)
  have e2 : S T ++ (⟨l.toArray⟩ : Str) = S (T ++ l) := by
    show (⟨T.toArray ++ l.toArray⟩ : Str) = ⟨(T ++ l).toArray⟩
    simp
  rw [e2] at e
  exact h _ (KPc.good_mono e (Nat.add_le_add_left (by simpa [Str.length] using hl) _))
theorem good0S {wr : Writer} (g : KPc.Good wr Str.empty 0) : KPc.Good wr (S []) 0 := g
section
variable {prog : Program} {w : World} {A : Around} {s : Shared} {Q : Fin → Shared → Prop} {E : Value → Shared → Prop} {n m : Nat} {t u u' : Tok}
theorem meets_hex1 (hn : n < 16 ^ 8) : Meets («str.__mod__» ⟨[.str (S [92, 37, 88, 32]) t, .int n u], []⟩) (fun _ R s => ∀ t' k, R (.ok (.ret (.str (S (92 :: hexN n ++ [32])) t'))) { s with toks := k }) := by
  apply KPc.meets_of
  intro prog w A s Q E h
  rw [KPc.entry_is]
  unfold Builtin.Str.percentFormat
  refine wpAny_bind (wpAny_isInstance (typeIs_int _ _ _) F.sub_int_tuple ?_)
  refine wpAny_bind (wpAny_of_eq (a := none) rfl ?_)
  refine wpAny_bind (wpAny_of_eq (KPc.fills _ _) ?_)
  kpc_if
  refine wpAny_bind (wpAny_pure ?_)
  refine wpAny_bind ?_
  rw [KPc.range_list]
  refine KPc.start ?_
  intro w1 g1
  replace g1 := good0S g1
  refine KPc.turn ?_
  kpc_check
  refine wpAny_of_eq (a := ForInStep.yield ([Value.int (n : Int) u], w1.add ⟨[92].toArray⟩ none, [37, 88, 32])) (by kernel_rfl) ?_
  refine after_S g1 (k := 1) (by decide) ?_
  intro w2 g2
  refine KPc.turn ?_
  kpc_check
  refine wpAny_of_eq (a := ForInStep.yield (([] : List Value), w2.add ⟨(percentInt { type := 88 } (decide ((n : Int) < 0)) ((Nat.toDigits 16 (n : Int).natAbs).map Char.toNat)).toArray⟩ none, [32])) (by kernel_rfl) ?_
  rw [percentInt_hex _ rfl rfl rfl]
  refine after_S g2 (k := 8) (hexN_len hn) ?_
  intro w3 g3
  refine KPc.turn ?_
  kpc_check
  refine wpAny_of_eq (a := ForInStep.yield (([] : List Value), w3.add ⟨[32].toArray⟩ none, [])) (by kernel_rfl) ?_
  refine after_S g3 (k := 1) (by decide) ?_
  intro w4 g4
  refine KPc.turn ?_
  kpc_check
  refine wpAny_of_eq (a := ForInStep.done (([] : List Value), w4, ([] : List Nat))) (by kernel_rfl) ?_
  refine wpAny_ite (KPc.ite_no Bool.false_ne_true ?_)
  exact KPc.finish_ok g4 (by decide +kernel) rfl h
theorem mod_hex1 {Q : Value → Shared → Prop} (hn : n < 16 ^ 8) (h : ∀ t' k, Q (.str (S (92 :: hexN n ++ [32])) t') { s with toks := k }) : wpAny (model prog w) A (binaryOp .Mod (.str (Str.ofString "\\%X ") t) (.int n u)) Q E s :=
  KPc.mod_lit (X' := S [92, 37, 88, 32]) (by decide +kernel) (shown (N := 2 ^ 1920) (by lia) (Int.lt_of_lt_of_le (by lia : (n : Int) < 16 ^ 8) (by decide)) (Int.le_refl _)) (fun _ _ => meets_hex1 hn) h
theorem meets_hex2 (hn : n < 16 ^ 8) : Meets («str.__mod__» ⟨[.str (S [85, 43, 37, 88]) t, .int n u], []⟩) (fun _ R s => ∀ t' k, R (.ok (.ret (.str (S (85 :: 43 :: hexN n)) t'))) { s with toks := k }) := by
  apply KPc.meets_of
  intro prog w A s Q E h
  rw [KPc.entry_is]
  unfold Builtin.Str.percentFormat
  refine wpAny_bind (wpAny_isInstance (typeIs_int _ _ _) F.sub_int_tuple ?_)
  refine wpAny_bind (wpAny_of_eq (a := none) rfl ?_)
  refine wpAny_bind (wpAny_of_eq (KPc.fills _ _) ?_)
  kpc_if
  refine wpAny_bind (wpAny_pure ?_)
  refine wpAny_bind ?_
  rw [KPc.range_list]
  refine KPc.start ?_
  intro w1 g1
  replace g1 := good0S g1
  refine KPc.turn ?_
  kpc_check
  refine wpAny_of_eq (a := ForInStep.yield ([Value.int (n : Int) u], w1.add ⟨[85, 43].toArray⟩ none, [37, 88])) (by kernel_rfl) ?_
  refine after_S g1 (k := 2) (by decide) ?_
  intro w2 g2
  refine KPc.turn ?_
  kpc_check
  refine wpAny_of_eq (a := ForInStep.yield (([] : List Value), w2.add ⟨(percentInt { type := 88 } (decide ((n : Int) < 0)) ((Nat.toDigits 16 (n : Int).natAbs).map Char.toNat)).toArray⟩ none, [])) (by kernel_rfl) ?_
  rw [percentInt_hex _ rfl rfl rfl]
  refine after_S g2 (k := 8) (hexN_len hn) ?_
  intro w3 g3
  refine KPc.turn ?_
  kpc_check
  refine wpAny_of_eq (a := ForInStep.done (([] : List Value), w3, ([] : List Nat))) (by kernel_rfl) ?_
  refine wpAny_ite (KPc.ite_no Bool.false_ne_true ?_)
  exact KPc.finish_ok g3 (by decide +kernel) rfl h
theorem mod_hex2 {Q : Value → Shared → Prop} (hn : n < 16 ^ 8) (h : ∀ t' k, Q (.str (S (85 :: 43 :: hexN n)) t') { s with toks := k }) : wpAny (model prog w) A (binaryOp .Mod (.str (Str.ofString "U+%X") t) (.int n u)) Q E s :=
  KPc.mod_lit (X' := S [85, 43, 37, 88]) (by decide +kernel) (shown (N := 2 ^ 1920) (by lia) (Int.lt_of_lt_of_le (by lia : (n : Int) < 16 ^ 8) (by decide)) (Int.le_refl _)) (fun _ _ => meets_hex2 hn) h
theorem meets_hex3 {b : Addr} (hn : n < 16 ^ 8) (hm : m < 16 ^ 8) : Meets («str.__mod__» ⟨[.str (S [85, 43, 37, 88, 45, 37, 88]) t, .ref b], []⟩) (fun _ R s => IsTup s.heap b #[.int n u, .int m u'] ∧ ∀ t' k, R (.ok (.ret (.str (S (85 :: 43 :: hexN n ++ [45] ++ hexN m)) t'))) { s with toks := k }) := by
  apply KPt.meets_tup
  intro prog w A s Q E kptH h
  obtain ⟨kptO, kptG, kptC, kptN, kptD⟩ := kptH
  rw [KPt.entry_is_r]
  unfold Builtin.Str.percentFormat
  refine wpAny_bind (wpAny_isInstance (T := "tuple") ⟨kptO, kptG, kptC⟩ KPt.sub_tt ?_)
  refine wpAny_bind (KPt.asStr_ref kptG kptD ?_)
  refine wpAny_bind (KPt.fills_ref ⟨kptO, kptG, kptC⟩ ?_)
  intro _
  kpc_if
  refine wpAny_bind (wpAny_seqItems kptG kptD ?_)
  refine wpAny_bind (wpAny_pure ?_)
  refine wpAny_bind ?_
  rw [KPc.range_list]
  refine KPc.start ?_
  intro w1 g1
  replace g1 := good0S g1
  refine KPc.turn ?_
  kpc_check
  refine wpAny_of_eq (a := ForInStep.yield ([Value.int (n : Int) u, Value.int (m : Int) u'], w1.add ⟨[85, 43].toArray⟩ none, [37, 88, 45, 37, 88])) (by kernel_rfl) ?_
  refine after_S g1 (k := 2) (by decide) ?_
  intro w2 g2
  refine KPc.turn ?_
  kpc_check
  refine wpAny_of_eq (a := ForInStep.yield ([Value.int (m : Int) u'], w2.add ⟨(percentInt { type := 88 } (decide ((n : Int) < 0)) ((Nat.toDigits 16 (n : Int).natAbs).map Char.toNat)).toArray⟩ none, [45, 37, 88])) (by kernel_rfl) ?_
  rw [percentInt_hex _ rfl rfl rfl]
  refine after_S g2 (k := 8) (hexN_len hn) ?_
  intro w3 g3
  refine KPc.turn ?_
  kpc_check
  refine wpAny_of_eq (a := ForInStep.yield ([Value.int (m : Int) u'], w3.add ⟨[45].toArray⟩ none, [37, 88])) (by kernel_rfl) ?_
  refine after_S g3 (k := 1) (by decide) ?_
  intro w4 g4
  refine KPc.turn ?_
  kpc_check
  refine wpAny_of_eq (a := ForInStep.yield (([] : List Value), w4.add ⟨(percentInt { type := 88 } (decide ((m : Int) < 0)) ((Nat.toDigits 16 (m : Int).natAbs).map Char.toNat)).toArray⟩ none, [])) (by kernel_rfl) ?_
  rw [percentInt_hex _ rfl rfl rfl]
  refine after_S g4 (k := 8) (hexN_len hm) ?_
  intro w5 g5
  refine KPc.turn ?_
  kpc_check
  refine wpAny_of_eq (a := ForInStep.done (([] : List Value), w5, ([] : List Nat))) (by kernel_rfl) ?_
  refine wpAny_ite (KPc.ite_no (by simp) ?_)
  exact KPc.finish_ok g5 (by decide +kernel) rfl h
theorem mod_hex3 {b : Addr} {Q : Value → Shared → Prop} (hn : n < 16 ^ 8) (hm : m < 16 ^ 8) (ht : s.heap.IsTuple b #[.int n u, .int m u']) (h : ∀ t' k, Q (.str (S (85 :: 43 :: hexN n ++ [45] ++ hexN m)) t') { s with toks := k }) :
    wpAny (model prog w) A (binaryOp .Mod (.str (Str.ofString "U+%X-%X") t) (.ref b)) Q E s := by
  have hT : s.TypeIs (.ref b) "tuple" := by
    obtain ⟨o, ho, hc, _⟩ := ht
    exact ⟨o, ho, hc⟩
  have e : Str.ofString "U+%X-%X" = S [85, 43, 37, 88, 45, 37, 88] := by decide +kernel
  rw [e]
  exact KPt.bin_left (T := "str") (U := "tuple") (op := .Mod) (by decide) (typeIs_str s _ t) hT F.fills_str_mod KPt.fills_tuple F.slot_str_mod
    (call_meets F.slot_str_mod (typeIs_str s _ t) F.entry_str_mod (F.args_str_mod_2 _ _) (meets_hex3 hn hm) ⟨ht, fun t' k => ⟨(fun e => nomatch e), h t' k⟩⟩)
end
end
theorem S_append (a b : List Nat) : S a ++ S b = S (a ++ b) := by
  show (⟨a.toArray ++ b.toArray⟩ : Str) = ⟨(a ++ b).toArray⟩
  simp
theorem S_length (a : List Nat) : (S a).length = a.length := by simp [S, Str.length]
theorem S_list (x : Str) : x = S x.cps.toList := by cases x; simp [S]
theorem S_inj {a b : List Nat} : S a = S b ↔ a = b := ⟨fun h => by have := congrArg (fun x => x.cps.toList) h; simpa [S] using this, fun h => h ▸ rfl⟩
theorem S_beq (a b : List Nat) : (S a == S b) = decide (a = b) := by
  by_cases h : a = b
  · subst h; simp
  · rw [beq_eq_false_iff_ne.mpr (fun e => h (S_inj.mp e)), decide_eq_false h]
theorem one_S2 (k : Nat) : (⟨#[k]⟩ : Str) = S [k] := rfl
section
variable {K : Frag} {P : Addr} {w : World} {A : Around} {c : Cx} {φ : Fz} {m : List (Str × Value)} {R : List (Addr × Obj)} {s : Shared}
theorem r_ordS {k : Nat} {t : Tok} {Q : Value → Shared → Prop} (H : St c φ m R s) (h : ∀ t s', St c φ m R s' → Q (.int (k : Nat) t) s') :
    wpAny (model PG w) A (call (.builtin "ord") [.str (S [k]) t]) Q NoE s := ord_of_one rfl (h _ _ (H.toks _))
theorem r_hex1 {k : Nat} {t u : Tok} {Q : Value → Shared → Prop} (H : St c φ m R s) (hk : k < 4294967296) (h : ∀ t s', St c φ m R s' → Q (.str (S (92 :: hexN k ++ [32])) t) s') :
    wpAny (model PG w) A (binaryOp .Mod (.str (Str.ofString "\\%X ") t) (.int k u)) Q NoE s := mod_hex1 hk (fun t k => h t _ (H.toks k))
theorem r_hex2 {k : Nat} {t u : Tok} {Q : Value → Shared → Prop} (H : St c φ m R s) (hk : k < 4294967296) (h : ∀ t s', St c φ m R s' → Q (.str (S (85 :: 43 :: hexN k)) t) s') :
    wpAny (model PG w) A (binaryOp .Mod (.str (Str.ofString "U+%X") t) (.int k u)) Q NoE s := mod_hex2 hk (fun t k => h t _ (H.toks k))
theorem r_hex3 {k l : Nat} {t u u' : Tok} {a : Addr} {o : Obj} {Q : Value → Shared → Prop} (H : St c φ m ((a, o) :: R) s) (ho : TupO o #[.int k u, .int l u']) (hk : k < 4294967296) (hl : l < 4294967296) (h : ∀ t s', St c φ m R s' → Q (.str (S (85 :: 43 :: hexN k ++ [45] ++ hexN l)) t) s') :
    wpAny (model PG w) A (binaryOp .Mod (.str (Str.ofString "U+%X-%X") t) (.ref a)) Q NoE s := mod_hex3 hk hl (H.isTup (.head _) ho) (fun t k => h t _ ((H.toks k).tail 1))
end
theorem lits : (Str.ofString "tinycss2.serializer" = S [116, 105, 110, 121, 99, 115, 115, 50, 46, 115, 101, 114, 105, 97, 108, 105, 122, 101, 114]) ∧ (Str.ofString "tinycss2.ast" = S [116, 105, 110, 121, 99, 115, 115, 50, 46, 97, 115, 116]) ∧ (Str.ofString "law_te0059_01" = S [108, 97, 119, 95, 116, 101, 48, 48, 53, 57, 95, 48, 49]) ∧ (Str.ofString "error" = S [101, 114, 114, 111, 114]) ∧ (Str.ofString "comment" = S [99, 111, 109, 109, 101, 110, 116]) ∧ (Str.ofString "whitespace" = S [119, 104, 105, 116, 101, 115, 112, 97, 99, 101]) ∧ (Str.ofString "literal" = S [108, 105, 116, 101, 114, 97, 108]) ∧ (Str.ofString "ident" = S [105, 100, 101, 110, 116]) ∧ (Str.ofString "at-keyword" = S [97, 116, 45, 107, 101, 121, 119, 111, 114, 100]) ∧ (Str.ofString "hash" = S [104, 97, 115, 104]) ∧ (Str.ofString "string" = S [115, 116, 114, 105, 110, 103]) ∧ (Str.ofString "url" = S [117, 114, 108]) ∧ (Str.ofString "unicode-range" = S [117, 110, 105, 99, 111, 100, 101, 45, 114, 97, 110, 103, 101]) ∧ (Str.ofString "number" = S [110, 117, 109, 98, 101, 114]) ∧ (Str.ofString "percentage" = S [112, 101, 114, 99, 101, 110, 116, 97, 103, 101]) ∧ (Str.ofString "dimension" = S [100, 105, 109, 101, 110, 115, 105, 111, 110]) ∧ (Str.ofString "() block" = S [40, 41, 32, 98, 108, 111, 99, 107]) ∧ (Str.ofString "[] block" = S [91, 93, 32, 98, 108, 111, 99, 107]) ∧ (Str.ofString "{} block" = S [123, 125, 32, 98, 108, 111, 99, 107]) ∧ (Str.ofString "function" = S [102, 117, 110, 99, 116, 105, 111, 110]) ∧ (Str.ofString "declaration" = S [100, 101, 99, 108, 97, 114, 97, 116, 105, 111, 110]) ∧ (Str.ofString "qualified-rule" = S [113, 117, 97, 108, 105, 102, 105, 101, 100, 45, 114, 117, 108, 101]) ∧ (Str.ofString "at-rule" = S [97, 116, 45, 114, 117, 108, 101]) ∧ (Str.ofString "-" = S [45]) ∧ (Str.ofString "-->" = S [45, 45, 62]) ∧ (Str.ofString "?" = S [63]) ∧ (Str.ofString "=" = S [61]) ∧ (Str.ofString "|" = S [124]) ∧ (Str.ofString "*" = S [42]) ∧ (Str.ofString "a" = S [97]) ∧ (Str.ofString "7" = S [55]) ∧ (Str.ofString "Z" = S [90]) ∧ (Str.ofString "_" = S [95]) ∧ (Str.ofString "é" = S [233]) ∧ (Str.ofString " " = S [32]) ∧ (Str.ofString "\n" = S [10]) ∧ (Str.ofString "\"" = S [34]) ∧ (Str.ofString "\r" = S [13]) ∧ (Str.ofString "\x0c" = S [12]) ∧ (Str.ofString "." = S [46]) ∧ (Str.ofString "\\" = S [92]) ∧ (Str.ofString "0" = S [48]) ∧ (Str.ofString "(" = S [40]) ∧ (Str.ofString "\x01" = S [1]) ∧ (Str.ofString "" = S []) ∧ (Str.ofString "\\-" = S [92, 45]) ∧ (Str.ofString "--" = S [45, 45]) ∧ (Str.ofString "source_column" = S [115, 111, 117, 114, 99, 101, 95, 99, 111, 108, 117, 109, 110]) ∧ (Str.ofString "source_line" = S [115, 111, 117, 114, 99, 101, 95, 108, 105, 110, 101]) ∧ (Str.ofString "kind" = S [107, 105, 110, 100]) ∧ (Str.ofString "message" = S [109, 101, 115, 115, 97, 103, 101]) ∧ (Str.ofString "value" = S [118, 97, 108, 117, 101]) ∧ (Str.ofString "lower_value" = S [108, 111, 119, 101, 114, 95, 118, 97, 108, 117, 101]) ∧ (Str.ofString "is_identifier" = S [105, 115, 95, 105, 100, 101, 110, 116, 105, 102, 105, 101, 114]) ∧ (Str.ofString "representation" = S [114, 101, 112, 114, 101, 115, 101, 110, 116, 97, 116, 105, 111, 110]) ∧ (Str.ofString "end" = S [101, 110, 100]) ∧ (Str.ofString "start" = S [115, 116, 97, 114, 116]) ∧ (Str.ofString "int_value" = S [105, 110, 116, 95, 118, 97, 108, 117, 101]) ∧ (Str.ofString "is_integer" = S [105, 115, 95, 105, 110, 116, 101, 103, 101, 114]) ∧ (Str.ofString "lower_unit" = S [108, 111, 119, 101, 114, 95, 117, 110, 105, 116]) ∧ (Str.ofString "unit" = S [117, 110, 105, 116]) ∧ (Str.ofString "content" = S [99, 111, 110, 116, 101, 110, 116]) ∧ (Str.ofString "arguments" = S [97, 114, 103, 117, 109, 101, 110, 116, 115]) ∧ (Str.ofString "lower_name" = S [108, 111, 119, 101, 114, 95, 110, 97, 109, 101]) ∧ (Str.ofString "name" = S [110, 97, 109, 101]) ∧ (Str.ofString "important" = S [105, 109, 112, 111, 114, 116, 97, 110, 116]) ∧ (Str.ofString "prelude" = S [112, 114, 101, 108, 117, 100, 101]) ∧ (Str.ofString "at_keyword" = S [97, 116, 95, 107, 101, 121, 119, 111, 114, 100]) ∧ (Str.ofString "lower_at_keyword" = S [108, 111, 119, 101, 114, 95, 97, 116, 95, 107, 101, 121, 119, 111, 114, 100]) ∧ (Str.ofString "#" = S [35]) ∧ (Str.ofString "@" = S [64]) ∧ (Str.ofString "+" = S [43]) ∧ (Str.ofString "$" = S [36]) ∧ (Str.ofString "^" = S [94]) ∧ (Str.ofString "~" = S [126]) ∧ (Str.ofString "/" = S [47]) ∧ (Str.ofString "xxxxxxxxxx...." = S [120, 120, 120, 120, 120, 120, 120, 120, 120, 120, 46, 46, 46, 46]) ∧ (Str.ofString "xxxxxxxxx....." = S [120, 120, 120, 120, 120, 120, 120, 120, 120, 46, 46, 46, 46, 46]) ∧ (Str.ofString "xxxxxxx......." = S [120, 120, 120, 120, 120, 120, 120, 46, 46, 46, 46, 46, 46, 46]) ∧ (Str.ofString "xxx...xx......" = S [120, 120, 120, 46, 46, 46, 120, 120, 46, 46, 46, 46, 46, 46]) ∧ (Str.ofString "xx.xxx....x..." = S [120, 120, 46, 120, 120, 120, 46, 46, 46, 46, 120, 46, 46, 46]) ∧ (Str.ofString "...xxx........" = S [46, 46, 46, 120, 120, 120, 46, 46, 46, 46, 46, 46, 46, 46]) ∧ (Str.ofString "...........x.." = S [46, 46, 46, 46, 46, 46, 46, 46, 46, 46, 46, 120, 46, 46]) ∧ (Str.ofString "...........xx." = S [46, 46, 46, 46, 46, 46, 46, 46, 46, 46, 46, 120, 120, 46]) ∧ (Str.ofString ".............x" = S [46, 46, 46, 46, 46, 46, 46, 46, 46, 46, 46, 46, 46, 120]) ∧ (Str.ofString "px" = S [112, 120]) ∧ (Str.ofString "e" = S [101]) ∧ (Str.ofString "e-3" = S [101, 45, 51]) ∧ (Str.ofString "-x" = S [45, 120]) ∧ (Str.ofString "%" = S [37]) ∧ (Str.ofString "--y" = S [45, 45, 121]) ∧ (Str.ofString "1a" = S [49, 97]) ∧ (Str.ofString "e-" = S [101, 45]) ∧ (Str.ofString ":" = S [58]) ∧ (Str.ofString "," = S [44]) ∧ (Str.ofString ";" = S [59]) ∧ (Str.ofString "<!--" = S [60, 33, 45, 45]) ∧ (Str.ofString ">" = S [62]) ∧ (Str.ofString "\\A " = S [92, 65, 32]) ∧ (Str.ofString "\\D " = S [92, 68, 32]) ∧ (Str.ofString "\\C " = S [92, 67, 32]) ∧ (Str.ofString "/**/" = S [47, 42, 42, 47]) ∧ (Str.ofString "\"[bad string]\n" = S [34, 91, 98, 97, 100, 32, 115, 116, 114, 105, 110, 103, 93, 10]) ∧ (Str.ofString "bad-string" = S [98, 97, 100, 45, 115, 116, 114, 105, 110, 103]) ∧ (Str.ofString "/*" = S [47, 42]) ∧ (Str.ofString "*/" = S [42, 47]) ∧ (Str.ofString ")" = S [41]) ∧ (Str.ofString "[" = S [91]) ∧ (Str.ofString "]" = S [93]) ∧ (Str.ofString "{" = S [123]) ∧ (Str.ofString "}" = S [125]) ∧ (Str.ofString "-12" = S [45, 49, 50]) ∧ (Str.ofString "+3" = S [43, 51]) ∧ (Str.ofString ".5" = S [46, 53]) ∧ (Str.ofString "1e3" = S [49, 101, 51]) ∧ (Str.ofString "s" = S [115]) ∧ (Str.ofString "\"s\"" = S [34, 115, 34]) ∧ (Str.ofString "it\"s" = S [105, 116, 34, 115]) ∧ (Str.ofString "\"it\\\"s\"" = S [34, 105, 116, 92, 34, 115, 34]) ∧ (Str.ofString "\"\"" = S [34, 34]) ∧ (Str.ofString "\"\\A \"" = S [34, 92, 65, 32, 34]) ∧ (Str.ofString "\\65 " = S [92, 54, 53, 32]) ∧ (Str.ofString "x" = S [120]) ∧ (Str.ofString "url([bad url])" = S [117, 114, 108, 40, 91, 98, 97, 100, 32, 117, 114, 108, 93, 41]) ∧ (Str.ofString "a fault" = S [97, 32, 102, 97, 117, 108, 116]) ∧ (Str.ofString "bad-url" = S [98, 97, 100, 45, 117, 114, 108]) ∧ (Str.ofString "!important" = S [33, 105, 109, 112, 111, 114, 116, 97, 110, 116]) ∧ (Str.ofString "0123456789" = S [48, 49, 50, 51, 52, 53, 54, 55, 56, 57]) ∧ (Str.ofString "0123456789ABCDEF" = S [48, 49, 50, 51, 52, 53, 54, 55, 56, 57, 65, 66, 67, 68, 69, 70]) ∧ (Str.ofString "\n  " = S [10, 32, 32]) ∧ (Str.ofString "\t" = S [9]) ∧ (Str.ofString "a.b" = S [97, 46, 98]) ∧ (Str.ofString "\"s" = S [34, 115]) ∧ (Str.ofString "eof-in-string" = S [101, 111, 102, 45, 105, 110, 45, 115, 116, 114, 105, 110, 103]) ∧ (Str.ofString "EOF in string" = S [69, 79, 70, 32, 105, 110, 32, 115, 116, 114, 105, 110, 103]) ∧ (Str.ofString "A" = S [65]) ∧ (Str.ofString ")]}" = S [41, 93, 125]) ∧ (Str.ofString "U+%X" = S [85, 43, 37, 88]) ∧ (Str.ofString "U+%X-%X" = S [85, 43, 37, 88, 45, 37, 88]) ∧ (Str.ofString "E" = S [69]) ∧ (Str.ofString "E-" = S [69, 45]) ∧ (Str.ofString "\\3" = S [92, 51]) ∧ (Str.ofString "U+" = S [85, 43]) ∧ (Str.ofString "url(" = S [117, 114, 108, 40]) ∧ (Str.ofString "\\%X " = S [92, 37, 88, 32]) ∧ (Str.ofString "eof-in-url" = S [101, 111, 102, 45, 105, 110, 45, 117, 114, 108]) ∧ (Str.ofString "Can not serialize" = S [67, 97, 110, 32, 110, 111, 116, 32, 115, 101, 114, 105, 97, 108, 105, 122, 101]) := by and_intros <;> kernel_rfl!
section
variable {P : Addr} {w : World} {A : Around} {c : Cx} {φ : Fz} {m : List (Str × Value)} {R : List (Addr × Obj)} {s : Shared} {q : Str} {sc : Scope} {f : Addr} {cd : Value} {x : Str} {v : Value}
theorem r_load {Q : Value → Shared → Prop} (H : St c φ m R s) (hv : Lk m x v) (h : Q v s)
    (hk : sc.kind = .function := by kernel_rfl!) (hx : sc.names.lookup x = some .local := by kernel_rfl!) :
    wpAny (model PG w) A (loadName (envOf q sc c.L f cd) x) Q NoE s := wpAny_loadName_local (env := envOf q sc c.L f cd) hk hx H.ns hv.eq h
theorem r_iadd_str {z y : Str} {t u : Tok} {Q : Value → Shared → Prop} (H : St c φ m R s) (hz : z.length + y.length ≤ sizeLine) (h : ∀ t s', St c φ m R s' → Q (.str (z ++ y) t) s') :
    wpAny (model PG w) A (inplaceOp .Add (.str z t) (.str y u)) Q NoE s := iadd_str (fun t' k => h _ _ (H.toks k)) hz
end
section
variable {K : Frag} {P : Addr} {w : World} {A : Around} {c : Cx} {φ : Fz} {m : List (Str × Value)} {R : List (Addr × Obj)} {s : Shared} {q : Str} {sc : Scope} {f : Addr} {cd : Value} {x : Str} {v : Value}

/-- the objects wr changed, the rest is kept -/
theorem St.wr (H : St c φ m R s) {wr : List Addr} {Z : List (Addr × Obj)} (hZ : R.take Z.length = Z) (hw : Z.map (·.1) = wr) {h' : Heap} {k : Nat} (hk : ∀ b o, b ∉ wr → s.heap.get? b = some o → h'.get? b = some o) (Z' : List (Addr × Obj)) (hw' : Z'.map (·.1) = wr)
    (hZ' : ∀ p ∈ Z', h'.get? p.1 = some p.2) : St c φ m (Z' ++ R.drop Z.length) { s with heap := h', toks := k } := by
  have hR : R = Z ++ R.drop Z.length := by conv => lhs; rw [← List.take_append_drop Z.length R, hZ]
  have hmem : ∀ a ∈ wr, ∃ o, (a, o) ∈ R := fun a ha => by
    rw [← hw] at ha
    obtain ⟨p, hp, rfl⟩ := List.mem_map.mp ha
    exact ⟨p.2, by rw [hR]; exact List.mem_append_left _ hp⟩
  have nw : ∀ a, (∃ o, φ a = some o) → a ∉ wr := fun a ⟨o, ho⟩ ha => by
    obtain ⟨o', h'⟩ := hmem a ha
    have := (H.led _ h').2.1; rw [ho] at this; cases this
  have Lw : c.L ∉ wr := fun ha => by
    obtain ⟨o', h'⟩ := hmem _ ha
    exact (H.led _ h').2.2.1 rfl
  have lo : ∀ a ∈ wr, c.g0.objs.size ≤ a := fun a ha => by
    obtain ⟨o', h'⟩ := hmem _ ha
    exact (H.led _ h').2.2.2
  have Pw : c.P ∉ wr := fun ha => absurd H.Plt (Nat.not_lt.mpr (lo _ ha))
  have cw : cN ∉ wr := fun ha => absurd H.clt (Nat.not_lt.mpr (lo _ ha))
  have nd : ((Z ++ R.drop Z.length).map (·.1)).Nodup := hR ▸ H.ord
  refine ⟨H.ns.at fun o e => hk _ o Lw e, H.old, H.top, fun b o e => hk b o (nw b ⟨o, e⟩) (H.fz b o e), fun p hp => ?_, ?_, H.Lφ, H.Pφ, H.Lg, H.L0, H.Plt, H.cin, H.os, H.bare, H.tab.of (fun o e => hk _ o cw e) fun o e => hk _ o Pw e⟩
  · rcases List.mem_append.mp hp with hp | hp
    · have ha : p.1 ∈ wr := hw' ▸ List.mem_map_of_mem hp
      obtain ⟨o', h2⟩ := hmem _ ha
      exact ⟨hZ' p hp, (H.led _ h2).2⟩
    · have hp2 : p ∈ R := by rw [hR]; exact List.mem_append_right _ hp
      refine ⟨hk _ _ (fun ha => ?_) (H.led _ hp2).1, (H.led _ hp2).2⟩
      rw [← hw] at ha
      rw [List.map_append, List.nodup_append] at nd
      exact nd.2.2 _ ha _ (List.mem_map_of_mem hp) rfl
  · rw [List.map_append, hw', ← hw, ← List.map_append]; exact nd

theorem r_for {target : Expr} {I : Addr} {fp wr : List Addr} {n : Nat} {Pv : Nat → Value → Prop} {Si : Nat → Heap → Prop} {body orelse : List Stmt} {env : Env} {Rr : Result → Shared → Prop} {φ0 : Fz} {m0 : List (Str × Value)} {R0 : List (Addr × Obj)} {Z0 : List (Addr × Obj)}
    (J : Nat → Fz → List (Str × Value) → List (Addr × Obj) → Prop)
    (W : Walks PG w A I fp wr n Pv Si) (live : ∀ i h, Si i h → ∀ b ∈ wr, ∃ o, h.get? b = some o) (hZ : Z0.map (·.1) = wr) (H0 : St c φ0 m0 (Z0 ++ R0) s) (st0 : Si 0 s.heap) (hfp : ∀ b ∈ fp, b ∈ wr ∨ ∃ o, φ0 b = some o) (J0 : J 0 φ0 m0 R0)
    (hstep : ∀ i φ m R Z s v, i < n → Pv i v → J i φ m R → Fz.le φ0 φ → Z.map (·.1) = wr → St c φ m (Z ++ R) s → Si (i + 1) s.heap →
      wpAny (model PG w) A (letOwnedTupleGo target (.ref I) v) (fun _ s₁ => wpAny (model PG w) A (assign target env v) (fun _ s₂ => wpAny (model PG w) A (execs body env) (fun fl s₃ => match fl with
        | .next => ∃ φ' m' R', St c φ' m' (Z ++ R') s₃ ∧ Fz.le φ φ' ∧ J (i + 1) φ' m' R'
        | .cont => ∃ φ' m' R', St c φ' m' (Z ++ R') s₃ ∧ Fz.le φ φ' ∧ J (i + 1) φ' m' R'
        | .brk => Rr (.ok .next) s₃
        | .ret v => Rr (.ok (.ret v)) s₃) NoE s₂) NoE s₁) NoE s)
    (hend : ∀ φ m R s, J n φ m R → Fz.le φ0 φ → St c φ m R s → wpAny (model PG w) A (execs orelse env) (fun f s₃ => Rr (.ok f) s₃) NoE s) :
    codeAny (model PG w) A (.forLoop target (.ref I) body orelse env) Rr s := by
  refine codeAny_forLoop_any (fun k s => ∃ φ m R Z, k ≤ n ∧ J (n - k) φ m R ∧ Fz.le φ0 φ ∧ Z.map (·.1) = wr ∧ St c φ m (Z ++ R) s ∧ Si (n - k) s.heap) (fun k s ⟨φ, m, R, Z, hk, hJ, hφ, hw, H, st⟩ => ?_) n ⟨φ0, m0, R0, Z0, Nat.le_refl _, by rw [Nat.sub_self]; exact J0, Fz.le_refl _, hZ, H0, by rw [Nat.sub_self]; exact st0⟩
  have tk : (Z ++ R).take Z.length = Z := by simp
  have dr : (Z ++ R).drop Z.length = R := by simp
  cases k with
  | zero =>
    refine W.done s _ _ st fun h' tok hk' => ?_
    refine wpAny_mono (hend φ m R _ hJ hφ ?_) (fun _ _ z => z) fun _ _ z => z.elim
    have := H.wr (wr := wr) (h' := h') (k := tok) tk hw hk'
    -- the iterator is let go
    have nw : ∀ p ∈ R, p.1 ∉ wr := fun p hp ha => by
      have nd := H.ord
      rw [List.map_append, List.nodup_append] at nd
      exact nd.2.2 _ (hw ▸ ha) _ (List.mem_map_of_mem hp) rfl
    have hmem : ∀ a ∈ wr, ∃ o, (a, o) ∈ Z ++ R := fun a ha => by
      rw [← hw] at ha
      obtain ⟨p, hp, rfl⟩ := List.mem_map.mp ha
      exact ⟨p.2, List.mem_append_left _ hp⟩
    have lo : ∀ a ∈ wr, c.g0.objs.size ≤ a := fun a ha => by
      obtain ⟨o', h'⟩ := hmem _ ha
      exact (H.led _ h').2.2.2
    have nφ : ∀ b o, φ b = some o → b ∉ wr := fun b o e ha => by
      obtain ⟨o', h'⟩ := hmem b ha
      have := (H.led _ h').2.1; rw [e] at this; cases this
    have Lw : c.L ∉ wr := fun ha => by
      obtain ⟨o', h'⟩ := hmem _ ha
      exact (H.led _ h').2.2.1 rfl
    exact ⟨H.ns.at fun o e => hk' _ o Lw e, H.old, H.top, fun b o e => hk' b o (nφ b o e) (H.fz b o e), fun p hp => ⟨hk' _ _ (nw p hp) (H.led _ (List.mem_append_right _ hp)).1, (H.led _ (List.mem_append_right _ hp)).2⟩,
      by have := H.ord; rw [List.map_append, List.nodup_append] at this; exact this.2.1, H.Lφ, H.Pφ, H.Lg, H.L0, H.Plt, H.cin, H.os, H.bare,
      H.tab.of (fun o e => hk' _ o (fun ha => absurd H.clt (Nat.not_lt.mpr (lo _ ha))) e) fun o e => hk' _ o (fun ha => absurd H.Plt (Nat.not_lt.mpr (lo _ ha))) e⟩
  | succ k =>
    have hi : n - (k + 1) < n := by lia
    refine W.item _ s _ _ hi st fun v h' tok hv st' hk' => ?_
    have hl := live _ _ st'
    let Z' : List (Addr × Obj) := wr.map fun a => (a, (h'.get? a).getD {cls := .none, data := .plain})
    have hw' : Z'.map (·.1) = wr := by simp [Z', Function.comp_def]
    have hZ' : ∀ p ∈ Z', h'.get? p.1 = some p.2 := fun p hp => by
      obtain ⟨a, ha, rfl⟩ := List.mem_map.mp hp
      obtain ⟨o, ho⟩ := hl a ha
      simp [ho]
    have H' := H.wr (wr := wr) (h' := h') (k := tok) tk hw hk' Z' hw' hZ'
    rw [dr] at H'
    have e1 : n - (k + 1) + 1 = n - k := by lia
    refine wpAny_mono (hstep _ φ m R Z' _ v hi hv hJ hφ hw' H' st') (fun _ s1 z => wpAny_mono z (fun _ s2 z => wpAny_mono z (fun fl s3 z => ?_) fun _ _ z => z.elim) fun _ _ z => z.elim) fun _ _ z => z.elim
    have fin : (∃ φ' m' R', St c φ' m' (Z' ++ R') s3 ∧ Fz.le φ φ' ∧ J (n - (k + 1) + 1) φ' m' R') → ∃ k', k' < k + 1 ∧ ∃ φ m R Z, k' ≤ n ∧ J (n - k') φ m R ∧ Fz.le φ0 φ ∧ Z.map (·.1) = wr ∧ St c φ m (Z ++ R) s3 ∧ Si (n - k') s3.heap := by
      rintro ⟨φ', m', R', H3, hle, hJ'⟩
      refine ⟨k, Nat.lt_succ_self _, φ', m', R', Z', by lia, e1 ▸ hJ', hφ.trans hle, hw', H3, ?_⟩
      refine W.frame _ _ _ (e1 ▸ st') fun b hb o e => ?_
      rcases hfp b hb with hb | ⟨o', ho'⟩
      · have hp : (b, (h'.get? b).getD {cls := .none, data := .plain}) ∈ Z' := List.mem_map_of_mem (f := fun a => (a, (h'.get? a).getD {cls := .none, data := .plain})) hb
        have := (H3.led _ (List.mem_append_left _ hp)).1
        have e' : h'.get? b = some o := e
        simp only [e', Option.getD_some] at this
        exact this
      · have h1 := H'.fz b o' (hφ b o' ho')
        have h2 := H3.fz b o' ((hφ.trans hle) b o' ho')
        rw [h1] at e; cases e; exact h2
    cases fl with
    | next => exact fin z
    | cont => exact fin z
    | brk => exact z
    | ret v => exact z

theorem r_unpack {env : Env} {elts : List Expr} {k : Nat} {pos : Pos} {t : Addr} {items : Array Value} {Q : Unit → Shared → Prop} (H : St c φ m R s) (hh : A.handled = none) (ht : s.heap.IsTuple t items)
    (hn : (assignEach elts env).length = items.size) (hs : (assignEach elts env).findIdx? (·.1) = none)
    (h : ∀ s', St c φ m R s' → wpAny (model PG w) A (assignInOrder ((assignEach elts env).map (·.2)) items.toList) Q NoE s') :
    wpAny (model PG w) A (assign (.Tuple elts k pos) env (.ref t)) Q NoE s :=
  wpAny_assign_Tuple hh ht hn hs fun h' he => h _ (H.grown (k := s.toks) fun b o e => he b o (Nat.ne_of_lt (Heap.lt_size e)) e)

/-- for over a list that is frozen -/
theorem r_for_list {target : Expr} {l : Addr} {lo : Obj} {items : Array Value} {body orelse : List Stmt} {env : Env} {Q : Flow → Shared → Prop}
    (J : Nat → Fz → List (Str × Value) → List (Addr × Obj) → Prop)
    (hh : A.handled = none) (H : St c φ m R s) (hl : φ l = some lo) (ho : LstO lo items) (J0 : J 0 φ m R)
    (hstep : ∀ i φ' m' R' z s (hi : i < items.size), J i φ' m' R' → Fz.le φ φ' → St c φ' m' (z :: R') s →
      wpAny (model PG w) A (assign target env items[i]) (fun _ s₂ => wpAny (model PG w) A (execs body env) (fun fl s₃ => match fl with
        | .next => ∃ φ'' m' R', St c φ'' m' (z :: R') s₃ ∧ Fz.le φ' φ'' ∧ J (i + 1) φ'' m' R'
        | .cont => ∃ φ'' m' R', St c φ'' m' (z :: R') s₃ ∧ Fz.le φ' φ'' ∧ J (i + 1) φ'' m' R'
        | .brk => Q .next s₃
        | .ret v => Q (.ret v) s₃) NoE s₂) NoE s)
    (hend : ∀ φ' m R s, J items.size φ' m R → Fz.le φ φ' → St c φ' m R s → wpAny (model PG w) A (execs orelse env) Q NoE s) :
    wpAny (model PG w) A (pyIter (.ref l)) (fun it s₂ => codeAny (model PG w) A (.forLoop target it body orelse env) (fun r s' => match r with | .ok f => Q f s' | .error e => cameBackBy (model PG w) A env NoE e s') s₂) NoE s := by
  have hI := H.fzLst hl ho
  have hne : l ≠ s.heap.objs.size := by obtain ⟨o, e, _⟩ := hI; exact Nat.ne_of_lt (Heap.lt_size e)
  refine wpAny_pyIter_list hI ?_
  have H1 := H.push { cls := .type "list_iterator", data := .fields #[.ref l, .int 0 0] } s.toks
  have hg : (s.heap.push { cls := .type "list_iterator", data := .fields #[.ref l, .int 0 0] }).IsListIter s.heap.objs.size l 0 := ⟨_, Heap.get?_push_size _ rfl, rfl, rfl⟩
  have hq := H1.fzLst hl ho
  refine r_for (Z0 := [(s.heap.objs.size, { cls := .type "list_iterator", data := .fields #[.ref l, .int 0 0] })]) (R0 := R) (φ0 := φ) (m0 := m) J (Walks.list hh s.heap.objs.size l hne items) ?_ rfl H1 ⟨hg, hq⟩ ?_ J0 ?_ ?_
  · rintro i h ⟨⟨o, e, _⟩, _⟩ b hb
    rw [List.mem_singleton.mp hb]; exact ⟨o, e⟩
  · intro b hb
    rcases List.mem_cons.mp hb with rfl | hb
    · exact .inl (.head _)
    · rw [List.mem_singleton.mp hb]; exact .inr ⟨_, hl⟩
  · intro i φ' m' R' Z s' v hi hv hJ hle hw H' st
    obtain ⟨z, rfl, hz⟩ := List.map_eq_singleton_iff.mp hw
    rw [Array.getElem?_eq_getElem hi] at hv
    cases hv
    exact letGo_listiter st.1 (hstep i φ' m' R' z s' hi hJ hle H')
  · exact fun φ' m' R' s' hJ hle H' => hend φ' m' R' s' hJ hle H'

/-- for over range(n) -/
theorem r_for_range {y : Str} {tp : Pos} {n : Nat} {u : Tok} {body orelse : List Stmt} {env : Env} {Q : Flow → Shared → Prop}
    (J : Nat → Fz → List (Str × Value) → List (Addr × Obj) → Prop)
    (hh : A.handled = none) (H : St c φ m R s) (hn : n < 4611686018427387904) (J0 : J 0 φ m R)
    (hstep : ∀ i φ' m' R' z t s (hi : i < n), J i φ' m' R' → Fz.le φ φ' → St c φ' m' (z :: R') s →
      wpAny (model PG w) A (storeName env y (.int i t)) (fun _ s₂ => wpAny (model PG w) A (execs body env) (fun fl s₃ => match fl with
        | .next => ∃ φ'' m' R', St c φ'' m' (z :: R') s₃ ∧ Fz.le φ' φ'' ∧ J (i + 1) φ'' m' R'
        | .cont => ∃ φ'' m' R', St c φ'' m' (z :: R') s₃ ∧ Fz.le φ' φ'' ∧ J (i + 1) φ'' m' R'
        | .brk => Q .next s₃
        | .ret v => Q (.ret v) s₃) NoE s₂) NoE s)
    (hend : ∀ φ' m R s, J n φ' m R → Fz.le φ φ' → St c φ' m R s → wpAny (model PG w) A (execs orelse env) Q NoE s) :
    wpAny (model PG w) A (call (.type "range") [.int n u]) (fun x s₁ => wpAny (model PG w) A (pyIter x) (fun it s₂ => codeAny (model PG w) A (.forLoop (.Name y tp) it body orelse env) (fun r s' => match r with | .ok f => Q f s' | .error e => cameBackBy (model PG w) A env NoE e s') s₂) NoE s₁) NoE s := by
  refine call_range_1 ?_
  have hsz : Builtin.Range.rangeSize 0 n 1 = (n : Int) := by rw [rangeSize_one]; split <;> lia
  have H1 := H.grown (k := s.toks + 1 + 1) (h' := s.heap.push { cls := .type "range", data := .fields #[.int 0 s.toks, .int n u, .int 1 (s.toks + 1)] }) fun b o e => Heap.get?_push_of_some _ e
  refine wpAny_pyIter_range (IsRange.new ..) (small_one (by decide) (by decide) (by lia) (by lia)) ?_
  rw [hsz]
  generalize hs1 : ({ s with heap := s.heap.push { cls := .type "range", data := .fields #[.int 0 s.toks, .int n u, .int 1 (s.toks + 1)] }, toks := s.toks + 1 + 1 } : Shared) = s1 at H1
  have H2 := H1.push { cls := .type "range_iterator", data := .fields #[rawInt 0, rawInt n, rawInt 1] } s1.toks
  have hg : IsRangeIter (s1.heap.push { cls := .type "range_iterator", data := .fields #[rawInt 0, rawInt n, rawInt 1] }) s1.heap.objs.size (0 + ((0 : Nat) : Int) * 1) ((n : Int) - ((0 : Nat) : Int)) 1 := by
    simp only [Int.ofNat_zero, Int.zero_mul, Int.add_zero, Int.sub_zero]
    exact Heap.get?_push_size _ rfl
  refine r_for (Z0 := [(s1.heap.objs.size, { cls := .type "range_iterator", data := .fields #[rawInt 0, rawInt n, rawInt 1] })]) (R0 := R) (φ0 := φ) (m0 := m) J (Walks.range hh s1.heap.objs.size 0 1 n) ?_ rfl H2 hg ?_ J0 ?_ ?_
  · intro i h e b hb
    rw [List.mem_singleton.mp hb]; exact ⟨_, e⟩
  · intro b hb
    exact .inl hb
  · intro i φ' m' R' Z s' v hi hv hJ hle hw H' st
    obtain ⟨z, rfl, hz⟩ := List.map_eq_singleton_iff.mp hw
    obtain ⟨t, rfl⟩ := hv
    have ei : (0 : Int) + (i : Int) * 1 = i := by lia
    rw [ei]
    refine wpAny_pure ?_
    exact wpAny_assign_Name (hstep i φ' m' R' z t s' hi hJ hle H')
  · exact fun φ' m' R' s' hJ hle H' => hend φ' m' R' s' hJ hle H'
theorem len_two {α : Type} {Z : List α} (h : Z.length = 2) : ∃ a b, Z = [a, b] := by
  cases Z with
  | nil => cases h
  | cons a Z => cases Z with
    | nil => cases h
    | cons b Z => cases Z with
      | nil => exact ⟨a, b, rfl⟩
      | cons _ _ => simp at h
theorem r_forT {elts : List Expr} {ek : Nat} {ep : Pos} {I : Addr} {fp wr : List Addr} {n : Nat} {Pv : Nat → Array Value → Prop} {Mid : Nat → Addr → Heap → Prop} {Si : Nat → Heap → Prop} {body orelse : List Stmt} {env : Env} {Rr : Result → Shared → Prop} {φ0 : Fz} {m0 : List (Str × Value)} {R0 : List (Addr × Obj)} {Z0 : List (Addr × Obj)}
    (J : Nat → Fz → List (Str × Value) → List (Addr × Obj) → Prop)
    (W : WalksT PG w A I fp wr n Pv Si Mid) (live : ∀ i h, Si i h → ∀ b ∈ wr, ∃ o, h.get? b = some o) (hZ : Z0.map (·.1) = wr) (H0 : St c φ0 m0 (Z0 ++ R0) s) (st0 : Si 0 s.heap) (hfp : ∀ b ∈ fp, b ∈ wr ∨ ∃ o, φ0 b = some o) (J0 : J 0 φ0 m0 R0)
    (hstep : ∀ i φ m R Z s T vals, i < n → Pv i vals → s.heap.IsTuple T vals → J i φ m R → Fz.le φ0 φ → Z.map (·.1) = wr → St c φ m (Z ++ R) s → Si (i + 1) s.heap →
      wpAny (model PG w) A (assign (.Tuple elts ek ep) env (.ref T)) (fun _ s₂ => wpAny (model PG w) A (execs body env) (fun fl s₃ => match fl with
        | .next => ∃ φ' m' R', St c φ' m' (Z ++ R') s₃ ∧ Fz.le φ φ' ∧ J (i + 1) φ' m' R'
        | .cont => ∃ φ' m' R', St c φ' m' (Z ++ R') s₃ ∧ Fz.le φ φ' ∧ J (i + 1) φ' m' R'
        | .brk => Rr (.ok .next) s₃
        | .ret v => Rr (.ok (.ret v)) s₃) NoE s₂) NoE s)
    (hend : ∀ φ m R s, J n φ m R → Fz.le φ0 φ → St c φ m R s → wpAny (model PG w) A (execs orelse env) (fun f s₃ => Rr (.ok f) s₃) NoE s) :
    codeAny (model PG w) A (.forLoop (.Tuple elts ek ep) (.ref I) body orelse env) Rr s := by
  refine codeAny_forLoop_any (fun k s => ∃ φ m R Z, k ≤ n ∧ J (n - k) φ m R ∧ Fz.le φ0 φ ∧ Z.map (·.1) = wr ∧ St c φ m (Z ++ R) s ∧ Si (n - k) s.heap) (fun k s ⟨φ, m, R, Z, hk, hJ, hφ, hw, H, st⟩ => ?_) n ⟨φ0, m0, R0, Z0, Nat.le_refl _, by rw [Nat.sub_self]; exact J0, Fz.le_refl _, hZ, H0, by rw [Nat.sub_self]; exact st0⟩
  have tk : (Z ++ R).take Z.length = Z := by simp
  have dr : (Z ++ R).drop Z.length = R := by simp
  cases k with
  | zero =>
    refine W.done s _ _ st fun h' tok hk' => ?_
    refine wpAny_mono (hend φ m R _ hJ hφ ?_) (fun _ _ z => z) fun _ _ z => z.elim
    have := H.wr (wr := wr) (h' := h') (k := tok) tk hw hk'
    -- the iterator is let go
    have nw : ∀ p ∈ R, p.1 ∉ wr := fun p hp ha => by
      have nd := H.ord
      rw [List.map_append, List.nodup_append] at nd
      exact nd.2.2 _ (hw ▸ ha) _ (List.mem_map_of_mem hp) rfl
    have hmem : ∀ a ∈ wr, ∃ o, (a, o) ∈ Z ++ R := fun a ha => by
      rw [← hw] at ha
      obtain ⟨p, hp, rfl⟩ := List.mem_map.mp ha
      exact ⟨p.2, List.mem_append_left _ hp⟩
    have lo : ∀ a ∈ wr, c.g0.objs.size ≤ a := fun a ha => by
      obtain ⟨o', h'⟩ := hmem _ ha
      exact (H.led _ h').2.2.2
    have nφ : ∀ b o, φ b = some o → b ∉ wr := fun b o e ha => by
      obtain ⟨o', h'⟩ := hmem b ha
      have := (H.led _ h').2.1; rw [e] at this; cases this
    have Lw : c.L ∉ wr := fun ha => by
      obtain ⟨o', h'⟩ := hmem _ ha
      exact (H.led _ h').2.2.1 rfl
    exact ⟨H.ns.at fun o e => hk' _ o Lw e, H.old, H.top, fun b o e => hk' b o (nφ b o e) (H.fz b o e), fun p hp => ⟨hk' _ _ (nw p hp) (H.led _ (List.mem_append_right _ hp)).1, (H.led _ (List.mem_append_right _ hp)).2⟩,
      by have := H.ord; rw [List.map_append, List.nodup_append] at this; exact this.2.1, H.Lφ, H.Pφ, H.Lg, H.L0, H.Plt, H.cin, H.os, H.bare,
      H.tab.of (fun o e => hk' _ o (fun ha => absurd H.clt (Nat.not_lt.mpr (lo _ ha))) e) fun o e => hk' _ o (fun ha => absurd H.Plt (Nat.not_lt.mpr (lo _ ha))) e⟩
  | succ k =>
    have hi : n - (k + 1) < n := by lia
    refine W.item _ s _ _ hi st fun T vals h1 tok hv _ hT hM hk1 => W.go _ _ _ _ _ _ _ _ hM fun h' st' hk2 => ?_
    have hk' : ∀ b o, b ∉ wr → s.heap.get? b = some o → h'.get? b = some o := fun b o hb e => hk2 b o hb (hk1 b o hb e)
    have hT' : h'.IsTuple T vals := let ⟨o, e, r⟩ := hT; ⟨o, hk2 _ _ (W.apart _ _ _ hM) e, r⟩
    have hl := live _ _ st'
    let Z' : List (Addr × Obj) := wr.map fun a => (a, (h'.get? a).getD {cls := .none, data := .plain})
    have hw' : Z'.map (·.1) = wr := by simp [Z', Function.comp_def]
    have hZ' : ∀ p ∈ Z', h'.get? p.1 = some p.2 := fun p hp => by
      obtain ⟨a, ha, rfl⟩ := List.mem_map.mp hp
      obtain ⟨o, ho⟩ := hl a ha
      simp [ho]
    have H' := H.wr (wr := wr) (h' := h') (k := tok) tk hw hk' Z' hw' hZ'
    rw [dr] at H'
    have e1 : n - (k + 1) + 1 = n - k := by lia
    refine wpAny_mono (hstep _ φ m R Z' _ T vals hi hv hT' hJ hφ hw' H' st') (fun _ s2 z => wpAny_mono z (fun fl s3 z => ?_) fun _ _ z => z.elim) fun _ _ z => z.elim
    have fin : (∃ φ' m' R', St c φ' m' (Z' ++ R') s3 ∧ Fz.le φ φ' ∧ J (n - (k + 1) + 1) φ' m' R') → ∃ k', k' < k + 1 ∧ ∃ φ m R Z, k' ≤ n ∧ J (n - k') φ m R ∧ Fz.le φ0 φ ∧ Z.map (·.1) = wr ∧ St c φ m (Z ++ R) s3 ∧ Si (n - k') s3.heap := by
      rintro ⟨φ', m', R', H3, hle, hJ'⟩
      refine ⟨k, Nat.lt_succ_self _, φ', m', R', Z', by lia, e1 ▸ hJ', hφ.trans hle, hw', H3, ?_⟩
      refine W.frame _ _ _ (e1 ▸ st') fun b hb o e => ?_
      rcases hfp b hb with hb | ⟨o', ho'⟩
      · have hp : (b, (h'.get? b).getD {cls := .none, data := .plain}) ∈ Z' := List.mem_map_of_mem (f := fun a => (a, (h'.get? a).getD {cls := .none, data := .plain})) hb
        have := (H3.led _ (List.mem_append_left _ hp)).1
        have e' : h'.get? b = some o := e
        simp only [e', Option.getD_some] at this
        exact this
      · have h1 := H'.fz b o' (hφ b o' ho')
        have h2 := H3.fz b o' ((hφ.trans hle) b o' ho')
        rw [h1] at e; cases e; exact h2
    cases fl with
    | next => exact fin z
    | cont => exact fin z
    | brk => exact z
    | ret v => exact z


/-- for place, sign in enumerate(text) -/
theorem r_for_enum {x : Str} {xt : Tok} {elts : List Expr} {ek : Nat} {ep : Pos} {body orelse : List Stmt} {env : Env} {Q : Flow → Shared → Prop}
    (J : Nat → Fz → List (Str × Value) → List (Addr × Obj) → Prop)
    (hh : A.handled = none) (H : St c φ m R s) (J0 : J 0 φ m R)
    (hstep : ∀ i φ' m' R' z1 z2 t u s T (hi : i < x.cps.size), J i φ' m' R' → Fz.le φ φ' → St c φ' m' (z1 :: z2 :: R') s → s.heap.IsTuple T #[.int i t, .str ⟨#[x.cps[i]]⟩ u] →
      wpAny (model PG w) A (assign (.Tuple elts ek ep) env (.ref T)) (fun _ s₂ => wpAny (model PG w) A (execs body env) (fun fl s₃ => match fl with
        | .next => ∃ φ'' m' R', St c φ'' m' (z1 :: z2 :: R') s₃ ∧ Fz.le φ' φ'' ∧ J (i + 1) φ'' m' R'
        | .cont => ∃ φ'' m' R', St c φ'' m' (z1 :: z2 :: R') s₃ ∧ Fz.le φ' φ'' ∧ J (i + 1) φ'' m' R'
        | .brk => Q .next s₃
        | .ret v => Q (.ret v) s₃) NoE s₂) NoE s)
    (hend : ∀ φ' m R s, J x.cps.size φ' m R → Fz.le φ φ' → St c φ' m R s → wpAny (model PG w) A (execs orelse env) Q NoE s) :
    wpAny (model PG w) A (call (.type "enumerate") [.str x xt]) (fun y s₁ => wpAny (model PG w) A (pyIter y) (fun it s₂ => codeAny (model PG w) A (.forLoop (.Tuple elts ek ep) it body orelse env) (fun r s' => match r with | .ok f => Q f s' | .error e => cameBackBy (model PG w) A env NoE e s') s₂) NoE s₁) NoE s := by
  refine call_enumerate_str fun h' he hi hz hk => wpAny_pyIter_enum he ?_
  obtain ⟨oi, hoi, hci⟩ := id hi
  have Dr : Draws PG w A.in1 s.heap.objs.size [s.heap.objs.size] x.cps.size (fun i v => ∃ c u, x.cps[i]? = some c ∧ v = .str ⟨#[c]⟩ u) (fun i h => h.IsStrIter s.heap.objs.size (strIterType x) x xt i) := by
    cases ha : x.cps.all (· < 128)
    · have e : strIterType x = "str_iterator" := by simp [strIterType, ha]
      rw [e]; exact Draws.strWide (show A.in1.handled = none from hh) ..
    · have e : strIterType x = "str_ascii_iterator" := by simp [strIterType, ha]
      rw [e]; exact Draws.strAscii (show A.in1.handled = none from hh) ..
  have H1 := H.grown (k := s.toks) hk
  have fresh : ∀ a, s.heap.objs.size ≤ a → φ a = none ∧ a ≠ c.L ∧ c.g0.objs.size ≤ a := fun a ha => by
    refine ⟨?_, Nat.ne_of_gt (Nat.lt_of_lt_of_le H.Llt ha), Nat.le_trans H.inv.size ha⟩
    cases q : φ a with
    | none => rfl
    | some o => exact absurd (Heap.lt_size (H.fz _ _ q)) (Nat.not_lt.mpr ha)
  have H2 : St c φ m ([(s.heap.objs.size + 1, { cls := .type "enumerate", data := .fields #[.none, .bool false, .ref s.heap.objs.size, rawInt 0, .none, .none] }), (s.heap.objs.size, oi)] ++ R) { s with heap := h' } := by
    refine ⟨H1.ns, H1.old, H1.top, H1.fz, fun p hp => ?_, ?_, H1.Lφ, H1.Pφ, H1.Lg, H1.L0, H1.Plt, H1.cin, H1.os, H1.bare, H1.tab⟩
    · rcases List.mem_cons.mp hp with rfl | hp
      · exact ⟨he, fresh _ (Nat.le_succ _)⟩
      · rcases List.mem_cons.mp hp with rfl | hp
        · exact ⟨hoi, fresh _ (Nat.le_refl _)⟩
        · exact H1.led p hp
    · have lt : ∀ p ∈ R, p.1 < s.heap.objs.size := fun p hp => H.lt hp
      show ((s.heap.objs.size + 1) :: (s.heap.objs.size :: R.map (·.1))).Nodup
      refine List.nodup_cons.mpr ⟨fun hm => ?_, List.nodup_cons.mpr ⟨fun hm => ?_, H1.ord⟩⟩
      · rcases List.mem_cons.mp hm with hm | hm
        · exact absurd hm (Nat.succ_ne_self _)
        · obtain ⟨p, hp, e⟩ := List.mem_map.mp hm
          have e : p.1 = s.heap.objs.size + 1 := e
          have := lt p hp; rw [e] at this; exact absurd this (Nat.not_lt.mpr (Nat.le_succ _))
      · obtain ⟨p, hp, e⟩ := List.mem_map.mp hm
        have e : p.1 = s.heap.objs.size := e
        have := lt p hp; rw [e] at this; exact absurd this (Nat.lt_irrefl _)
  refine r_forT (Z0 := [(s.heap.objs.size + 1, { cls := .type "enumerate", data := .fields #[.none, .bool false, .ref s.heap.objs.size, rawInt 0, .none, .none] }), (s.heap.objs.size, oi)]) (R0 := R) (φ0 := φ) (m0 := m) J
    (WalksT.enumerateD Dr (s.heap.objs.size + 1) (Nat.succ_ne_self _) (by intro hm; exact absurd (List.mem_singleton.mp hm) (Nat.succ_ne_self _)) (List.mem_singleton.mpr rfl)) ?_ rfl H2 ⟨⟨_, he⟩, hi⟩ ?_ J0 ?_ ?_
  · rintro i h ⟨⟨old, e1⟩, ⟨o, e2, _⟩⟩ b hb
    rcases List.mem_cons.mp hb with rfl | hb
    · exact ⟨_, e1⟩
    · rw [List.mem_singleton.mp hb]; exact ⟨_, e2⟩
  · intro b hb
    exact .inl hb
  · intro i φ' m' R' Z s' T vals hi hv hT hJ hle hw H' st
    obtain ⟨z1, z2, rfl⟩ := len_two (show Z.length = 2 by have := congrArg List.length hw; rw [List.length_map] at this; exact this)
    obtain ⟨t, y, ⟨cc, u, hc, rfl⟩, rfl⟩ := hv
    rw [Array.getElem?_eq_getElem hi] at hc
    cases hc
    exact hstep i φ' m' R' z1 z2 t u s' T hi hJ hle H' hT
  · exact fun φ' m' R' s' hJ hle H' => hend φ' m' R' s' hJ hle H'
end
/-- the env of a comprehension -/
def cEnv (q : Str) (sc : Scope) (C L : Addr) (cd : Value) : Env := { scope := sc, locals := C, globals := mainGlobals, cells := [], qual := q ++ ".<locals>.", func := none, code := cd, frame := some L, builtins := builtinsNs }
section
variable {K : Frag} {P : Addr} {w : World} {A : Around} {c : Cx} {φ : Fz} {m : List (Str × Value)} {R : List (Addr × Obj)} {s : Shared} {q : Str} {sc gsc : Scope} {f L : Addr} {cd : Value} {x : Str} {v : Value} {pos px : Pos} {elt iter : Expr}

theorem rc_loc {Q : Value → Shared → Prop} (H : St c φ m R s) (hv : Lk m x v) (h : Q v s)
    (hk : sc.kind = .function := by kernel_rfl!) (hx : sc.names.lookup x = some .local := by kernel_rfl!) (hd : (x == ("__debug__" : Str)) = false := by kernel_rfl!) :
    wpAny (model PG w) A (eval (.Name x pos) (cEnv q sc c.L L cd)) Q NoE s :=
  wpAny_Name (wpAny_loadName_local (env := cEnv q sc c.L L cd) hk hx H.ns hv.eq h) hd
theorem rc_glob {Q : Value → Shared → Prop} (H : St c φ m R s) (G : Gd K c.g0 P) (e : nsIn K mainGlobals x = some (some v)) (h : Q v s)
    (hk : sc.kind = .function := by kernel_rfl!) (hx : sc.names.lookup x = some .globalImplicit := by kernel_rfl!) (hd : (x == ("__debug__" : Str)) = false := by kernel_rfl!) :
    wpAny (model PG w) A (eval (.Name x pos) (cEnv q sc c.L L cd)) Q NoE s := by
  obtain ⟨mg, h1, h2⟩ := H.glob G e
  exact Name_function_global hk hx (loadGlobal_global (env := cEnv q sc c.L L cd) h1 h2 h) hd
theorem rc_bi {Q : Value → Shared → Prop} (H : St c φ m R s) (G : Gd K c.g0 P) (e : nsIn K mainGlobals x = some none) (hv : bootBuiltins x = some v) (h : Q v s)
    (hn : (x == ("__name__" : Str)) = false := by kernel_rfl!) (hk : sc.kind = .function := by kernel_rfl!) (hx : sc.names.lookup x = some .globalImplicit := by kernel_rfl!) (hd : (x == ("__debug__" : Str)) = false := by kernel_rfl!) :
    wpAny (model PG w) A (eval (.Name x pos) (cEnv q sc c.L L cd)) Q NoE s := by
  obtain ⟨p, loose, mg, mb, T⟩ := G.T
  have hn' : x ≠ "__name__" := fun z => by rw [z] at hn; simp at hn
  exact Name_function_global hk hx (loadGlobal_builtin (env := cEnv q sc c.L L cd) (T.g.keeps H.inv.top) (mg_none_of G.X T.g e) (T.b.keeps H.inv.top) ((T.builtins x hn').trans hv) h) hd

/-- what goes on when the iterator stands -/
def CompK (w : World) (A : Around) (elt : Expr) (x : Str) (px : Pos) (iter : Expr) (gsc : Scope) (pos : Pos) (env : Env) (Q : Value → Shared → Prop) : Value → Shared → Prop := fun it s₂ =>
  wpAny (model PG w) A (newList []) (fun acc s₃ =>
      wpAny (model PG w) A (newFunctionEnv gsc env.globals [] [] env.qual none .none (some env)) (fun cenv s₄ =>
        codeAny (model PG w) A (.compStart (.ListComp elt (⟨.Name x px, iter, [], 0⟩ :: []) gsc pos) 0 it acc { cenv with scope := gsc })
          (fun r s' => ∃ m, s'.heap.Ns cenv.locals m ∧ ∀ h', Heap.SameBut cenv.locals s'.heap h' →
            match r with | .ok _ => Q acc { s' with heap := h' } | .error x => wpAny (model PG w) A (passOn "comprehension.variables-let-go" x { cenv with scope := gsc }) Q NoE { s' with heap := h' }) s₄) NoE s₃) NoE s₂

theorem r_listcomp {env : Env} {Q : Value → Shared → Prop} (hfree : (gsc.names.all fun y => decide (y.2 ≠ .free)) = true) (hkind : gsc.kind = .function) (hnames : (gsc.names.all fun y => decide (y.2 = .local → gsc.names.lookup y.1 = some .local)) = true)
    (hs : ∀ x, foldedSetIterable iter env x = pure x)
    (h : wpAny (model PG w) A (eval iter env) (fun y s₁ => wpAny (model PG w) A (pyIter y) (CompK w A elt x px iter gsc pos env Q) NoE s₁) NoE s) :
    wpAny (model PG w) A (eval (.ListComp elt [⟨.Name x px, iter, [], 0⟩] gsc pos) env) Q NoE s :=
  wpAny_ListComp (fun y hy => of_decide_eq_true (List.all_eq_true.mp hfree y hy)) hkind (fun y hy => of_decide_eq_true (List.all_eq_true.mp hnames y hy)) h hs

def LstD (o : Obj) (its : Array Value) : Prop := LstO o its ∧ o.dict = none
theorem r_appendD {D : Addr} {o : Obj} {its : Array Value} {x : Value} {Q : Value → Shared → Prop} (H : St c φ m R s) (i : Nat) (hi : R[i]? = some (D, o)) (ho : LstD o its) (hsz : its.size ≤ sizeLine)
    (h : ∀ o' s', LstD o' (its.push x) → St c φ m (R.set i (D, o')) s' → Q .none s') : wpAny (model PG w) A (call (.builtin "list.append") [.ref D, x]) Q NoE s := by
  obtain ⟨⟨hc, n, hd⟩, hdn⟩ := ho
  refine list_append_plainL (its := its) ⟨o, n, H.get i hi, hc, hdn, hd⟩ (fun h' hl hs => ?_) hsz
  obtain ⟨o', n', ho', hc', hdn', hd'⟩ := hl
  exact h o' _ ⟨⟨hc', n', hd'⟩, hdn'⟩ (H.upd i hi hs ho' s.toks)
def CompG (w : World) (A : Around) (elt : Expr) (x : Str) (px : Pos) (iter : Expr) (gsc : Scope) (pos : Pos) (env : Env) (RR : Value → Env → Result → Shared → Prop) : Value → Shared → Prop := fun it s₂ =>
  wpAny (model PG w) A (newList []) (fun acc s₃ =>
      wpAny (model PG w) A (newFunctionEnv gsc env.globals [] [] env.qual none .none (some env)) (fun cenv s₄ =>
        codeAny (model PG w) A (.compStart (.ListComp elt (⟨.Name x px, iter, [], 0⟩ :: []) gsc pos) 0 it acc { cenv with scope := gsc }) (fun r s' => RR acc cenv r s') s₄) NoE s₃) NoE s₂
theorem compK_ofG {I : Addr} {oI : Obj} {fp : List Addr} {n : Nat} {Pv : Nat → Value → Prop} {Si : Nat → Heap → Prop} {RR : Value → Env → Result → Shared → Prop}
    (J : Nat → List Value → Prop) (W : Walks PG w A I fp [I] n Pv Si) (live : ∀ i h, Si i h → ∃ o, h.get? I = some o) (H : St c φ m ((I, oI) :: R) s) (st0 : Si 0 s.heap) (hfp : ∀ b ∈ fp, b = I ∨ ∃ o, s.heap.get? b = some o ∧ b ≠ c.P)
    (J0 : J 0 []) (hn : n ≤ 16777216)
    (hcell : (gsc.names.all fun y => decide (y.2 ≠ .cell)) = true) (hkind : gsc.kind = .function) (hx : gsc.names.lookup x = some .local)
    (hstep : ∀ i φ' m' R' s v vs (c' : Cx), c'.g0 = c.g0 → c'.P = c.P → i < n → Pv i v → J i vs → vs.length = i → St c' φ' ((x, v) :: m') R' s →
      wpAny (model PG w) A (eval elt (cEnv q gsc c'.L L cd)) (fun y s' => J (i + 1) (vs ++ [y]) ∧ St c' φ' ((x, v) :: m') R' s') NoE s)
    (hend : ∀ a o vs s6 cenv, LstD o vs.toArray → vs.length = n → J n vs → (∃ mC, s6.heap.Ns cenv.locals mC) → cenv.locals ≠ c.L → φ cenv.locals = none → (∀ p ∈ (a, o) :: R, p.1 ≠ cenv.locals) → c.P ≠ cenv.locals → c.g0.objs.size ≤ cenv.locals →
      (∀ h', Heap.SameBut cenv.locals s6.heap h' → St c φ m ((a, o) :: R) { s6 with heap := h' }) → RR (.ref a) cenv (.ok .next) s6) :
    CompG w A elt x px iter gsc pos (envOf q sc L f cd) RR (.ref I) s := by
  unfold CompG
  refine wpAny_newObj_type (s := s) ?_
  have H1 := H.push { cls := .type "list", data := .seq #[] } s.toks
  refine wpAny_newFunctionEnv (fun y hy => of_decide_eq_true (List.all_eq_true.mp hcell y hy)) (fun _ h => nomatch h) (fun h₄ hns hs₄ => ?_) hkind
  let aL := s.heap.objs.size
  let C := (s.heap.push { cls := .type "list", data := .seq #[] }).objs.size
  have hC : C = s.heap.objs.size + 1 := Heap.size_push ..
  have k₄ : ∀ b o, (s.heap.push { cls := .type "list", data := .seq #[] }).get? b = some o → h₄.get? b = some o := fun b o e => by
    have hne : b ≠ C := Nat.ne_of_lt (Heap.lt_size e)
    exact (hs₄.2 b hne).trans (Heap.get?_push_of_some _ e)
  have k₃ : ∀ b o, s.heap.get? b = some o → h₄.get? b = some o := fun b o e => k₄ b o (Heap.get?_push_of_some _ e)
  have hsI : ∃ o, s.heap.get? I = some o := ⟨_, H.get 0 rfl⟩
  have Ilt : I < s.heap.objs.size := let ⟨_, e⟩ := hsI; Heap.lt_size e
  have hI := H.led (I, oI) (.head _)
  have hIP : I ≠ c.P := fun e => absurd H.Plt (Nat.not_lt.mpr (e ▸ hI.2.2.2))
  have hgs : c.g0.objs.size ≤ s.heap.objs.size := H.inv.size
  have PC : c.P ≠ C := fun e => absurd H.Plt (Nat.not_lt.mpr (by rw [e, hC]; exact Nat.le_succ_of_le hgs))
  have Pa : c.P ≠ aL := fun e => absurd H.Plt (Nat.not_lt.mpr (by rw [e]; exact hgs))
  have aC : aL ≠ C := by rw [hC]; exact Nat.ne_of_lt (Nat.lt_succ_self _)
  have IC : I ≠ C := by rw [hC]; exact Nat.ne_of_lt (Nat.lt_succ_of_lt Ilt)
  have Ia : I ≠ aL := Nat.ne_of_lt Ilt
  have lC : c.g0.objs.size ≤ C := by rw [hC]; exact Nat.le_succ_of_le hgs
  have lS : c.s0.heap.objs.size ≤ C := by rw [hC]; exact Nat.le_succ_of_le (Nat.le_of_lt (Nat.lt_of_le_of_lt H.L0 H.Llt))
  let c' : Cx := ⟨c.g0, c.P, c.s0, c.D, C⟩
  let φ' : Fz := fun b => if b = C ∨ b = aL ∨ b = I ∨ b = c.P then none else s.heap.get? b
  have hφ' : ∀ b o, b ≠ C → b ≠ aL → b ≠ I → b ≠ c.P → s.heap.get? b = some o → φ' b = some o := fun b o h1 h2 h3 h4 e => by
    show (if b = C ∨ b = aL ∨ b = I ∨ b = c.P then none else s.heap.get? b) = some o
    rw [if_neg (by simp [h1, h2, h3, h4])]; exact e
  have nφ' : ∀ b, (b = C ∨ b = aL ∨ b = I ∨ b = c.P) → φ' b = none := fun b h => if_pos h
  have sφ' : ∀ b o, φ' b = some o → s.heap.get? b = some o := fun b o e => by
    have e : (if b = C ∨ b = aL ∨ b = I ∨ b = c.P then none else s.heap.get? b) = some o := e
    split at e
    · cases e
    · exact e
  have lt_of : ∀ b o, φ b = some o → b ≠ C ∧ b ≠ aL ∧ b ≠ I ∧ b ≠ c.P := fun b o e => by
    have l := Heap.lt_size (H.fz _ _ e)
    refine ⟨?_, Nat.ne_of_lt l, fun z => ?_, fun z => ?_⟩
    · rw [hC]; exact Nat.ne_of_lt (Nat.lt_succ_of_lt l)
    · rw [z, hI.2.1] at e; cases e
    · rw [z, H.Pφ] at e; cases e
  have up : Fz.le φ φ' := fun b o e => let ⟨a1, a2, a3, a4⟩ := lt_of b o e; hφ' b o a1 a2 a3 a4 (H.fz _ _ e)
  have H4 : St c' φ' [] [(I, oI), (aL, { cls := .type "list", data := .seq #[] })] { s with heap := h₄ } := by
    refine ⟨hns, fun b o e h1 h2 => up b o (H.old b o e h1 h2), fun b o e => up b o (H.top b o e), fun b o e => k₃ b o (sφ' b o e), fun p hp => ?_, ?_, nφ' _ (.inl rfl), nφ' _ (.inr (.inr (.inr rfl))), lC, lS, H.Plt, H.cin, H.os, H.bare, H.tab.keeps k₃⟩
    · rcases List.mem_cons.mp hp with rfl | hp
      · exact ⟨k₃ _ _ hI.1, nφ' _ (.inr (.inr (.inl rfl))), IC, hI.2.2.2⟩
      · rw [List.mem_singleton.mp hp]
        exact ⟨k₄ _ _ (Heap.get?_push_size _ rfl), nφ' _ (.inr (.inl rfl)), aC, hgs⟩
    · show (I :: [aL]).Nodup
      exact List.nodup_cons.mpr ⟨fun hm => Ia (List.mem_singleton.mp hm), List.nodup_cons.mpr ⟨(fun h => nomatch h), List.nodup_nil⟩⟩
  have st4 : Si 0 h₄ := W.frame _ _ _ st0 fun b _ o e => k₃ b o e
  show codeAny _ _ (.compStart _ 0 (.ref I) (.ref aL) (cEnv q gsc C L cd)) (fun r s' => RR (.ref aL) (cEnv q gsc C L cd) r s') ({ s with heap := h₄ } : Shared)
  -- behind the loop
  have fin : ∀ (s5 : Shared) (m1 : List (Str × Value)) (Z : List (Addr × Obj)) (o : Obj) (vs : List Value), LstD o vs.toArray → vs.length = n → J n vs → Z.map (·.1) = [I] → St c' φ' m1 (Z ++ [(aL, o)]) s5 → ∀ h' tk, (∀ b ob, b ∉ [I] → s5.heap.get? b = some ob → h'.get? b = some ob) →
      RR (.ref aL) (cEnv q gsc C L cd) (.ok .next) { s5 with heap := h', toks := tk } := by
    intro s5 m1 Z o vs ho hl hJ hZ H5 h' tk hk
    have nI : ∀ b, b ≠ I → b ∉ [I] := fun b hb hm => hb (List.mem_singleton.mp hm)
    refine hend _ o vs _ _ ho hl hJ ⟨_, H5.ns.at fun o e => hk _ o (nI _ (Ne.symm IC)) e⟩ ?_ ?_ ?_ PC lC (fun h'' hs => ?_)
    · show C ≠ c.L
      rw [hC]; exact Ne.symm (Nat.ne_of_lt (Nat.lt_succ_of_lt H.Llt))
    · show φ C = none
      cases q : φ C with
      | none => rfl
      | some ob => exact absurd rfl (lt_of _ _ q).1
    · intro p hp
      show p.1 ≠ C
      rcases List.mem_cons.mp hp with rfl | hp
      · exact aC
      · rw [hC]; exact Nat.ne_of_lt (Nat.lt_succ_of_lt (H.lt (.tail _ hp)))
    have kk : ∀ b ob, b ≠ I → b ≠ C → s5.heap.get? b = some ob → h''.get? b = some ob := fun b ob h1 h2 e => (hs.2 b h2).trans (hk b ob (nI b h1) e)
    have kφ : ∀ b ob, φ' b = some ob → h''.get? b = some ob := fun b ob e => by
      refine kk b ob (fun z => ?_) (fun z => ?_) (H5.fz b ob e)
      · rw [z, nφ' _ (.inr (.inr (.inl rfl)))] at e; cases e
      · rw [z, nφ' _ (.inl rfl)] at e; cases e
    have Lne : c.L ≠ C ∧ c.L ≠ aL ∧ c.L ≠ I ∧ c.L ≠ c.P := ⟨by rw [hC]; exact Nat.ne_of_lt (Nat.lt_succ_of_lt H.Llt), Nat.ne_of_lt H.Llt, Ne.symm hI.2.2.1, fun e => absurd H.Plt (Nat.not_lt.mpr (e ▸ H.Lg))⟩
    have nd := List.nodup_cons.mp (by have := H.ord; rwa [List.map_cons] at this)
    have clt := H.clt
    have tab5 := H5.tab
    refine ⟨H.ns.at fun ob e => kφ _ _ (hφ' _ _ Lne.1 Lne.2.1 Lne.2.2.1 Lne.2.2.2 e), H.old, H.top, fun b ob e => kφ b ob (up b ob e), fun p hp => ?_, ?_, H.Lφ, H.Pφ, H.Lg, H.L0, H.Plt, H.cin, H5.os, H5.bare, ?_⟩
    · rcases List.mem_cons.mp hp with rfl | hp
      · refine ⟨kk _ _ (Ne.symm Ia) aC (H5.led _ (List.mem_append_right _ (.head _))).1, ?_, ?_, hgs⟩
        · cases q : φ aL with
          | none => rfl
          | some ob => exact absurd rfl (lt_of _ _ q).2.1
        · exact Ne.symm Lne.2.1
      · have e := H.led p (.tail _ hp)
        have l := Heap.lt_size e.1
        have pI : p.1 ≠ I := fun z => nd.1 (List.mem_map.mpr ⟨p, hp, z⟩)
        refine ⟨kφ _ _ (hφ' _ _ ?_ (Nat.ne_of_lt l) pI (fun z => absurd H.Plt (Nat.not_lt.mpr (z ▸ e.2.2.2))) e.1), e.2⟩
        rw [hC]; exact Nat.ne_of_lt (Nat.lt_succ_of_lt l)
    · show (aL :: R.map (·.1)).Nodup
      refine List.nodup_cons.mpr ⟨fun hm => ?_, nd.2⟩
      obtain ⟨p, hp, e⟩ := List.mem_map.mp hm
      exact absurd (H.lt (.tail _ hp)) (by rw [show p.1 = s.heap.objs.size from e]; exact Nat.lt_irrefl _)
    · exact tab5.of (fun ob e => kk _ ob (fun z => absurd clt (Nat.not_lt.mpr (z ▸ hI.2.2.2))) (fun z => absurd clt (Nat.not_lt.mpr (z ▸ lC))) e) fun ob e => kk _ ob (Ne.symm hIP) PC e
  -- the loop
  have loop : codeAny (model PG w) A (.compLoop (.ListComp elt [⟨.Name x px, iter, [], 0⟩] gsc pos) 0 (.ref I) (.ref aL) (cEnv q gsc C L cd)) (fun r s' => RR (.ref aL) (cEnv q gsc C L cd) r s') { s with heap := h₄ } := by
    refine codeAny_compLoop_tests (fun k s => ∃ m1 Z o vs, k ≤ n ∧ vs.length = n - k ∧ LstD o vs.toArray ∧ J (n - k) vs ∧ Z.map (·.1) = [I] ∧ St c' φ' m1 (Z ++ [(aL, o)]) s ∧ Si (n - k) s.heap) (fun k s5 ⟨m1, Z, o, vs, hk, hl, ho, hJ, hZ, H5, st⟩ => ?_) n
      ⟨[], [(I, oI)], _, [], Nat.le_refl _, by rw [Nat.sub_self]; rfl, ⟨⟨rfl, _, rfl⟩, rfl⟩, by rw [Nat.sub_self]; exact J0, rfl, H4, by rw [Nat.sub_self]; exact st4⟩ (fun _ => rfl)
    cases k with
    | zero => exact W.done s5 _ _ st fun h' tk hk' => fin s5 m1 Z o vs ho hl hJ hZ H5 h' tk hk'
    | succ k =>
      have hi : n - (k + 1) < n := by lia
      have e1 : n - (k + 1) + 1 = n - k := by lia
      have tk : (Z ++ [(aL, o)]).take Z.length = Z := by simp
      have dr : (Z ++ [(aL, o)]).drop Z.length = [(aL, o)] := by simp
      refine W.item _ s5 _ _ hi st fun v h' tok hv st' hk' => ?_
      obtain ⟨oI', hoI'⟩ := live _ _ st'
      have H6 := H5.wr (wr := [I]) (h' := h') (k := tok) tk hZ hk' [(I, oI')] rfl (fun p hp => by rw [List.mem_singleton.mp hp]; exact hoI')
      rw [dr] at H6
      refine PyProof.Rows.assign_Name ?_
      refine wpAny_mono (E := NoE) (wpAny_storeName_local (Q := fun _ s7 => St c' φ' ((x, v) :: m1) ([(I, oI')] ++ [(aL, o)]) s7) (env := cEnv q gsc C L cd) hx H6.ns (fun _ hn hs => H6.store hn hs) (by show (gsc.kind == .class || (gsc.kind == .module && C != mainGlobals)) = false; rw [hkind]; rfl)) (fun _ s7 H7 => ?_) fun _ _ z => z.elim
      refine wpAny_pure ?_
      refine KPc.ite_yes rfl ?_
      refine wpAny_mono (hstep _ φ' m1 _ s7 v vs c' rfl rfl hi hv hJ hl H7) (fun y s8 ⟨hJ8, H8⟩ => ?_) fun _ _ z => z.elim
      refine wpAny_mono (r_appendD (D := aL) (o := o) (its := vs.toArray) (x := y) (Q := fun _ s9 => ∃ o', LstD o' ((vs ++ [y]).toArray) ∧ St c' φ' ((x, v) :: m1) ([(I, oI')] ++ [(aL, o')]) s9) H8 1 rfl ho (by have := sizeLine_eq; simp; lia) fun o' s9 ho' H9 => ⟨o', by simpa using ho', H9⟩) (fun _ s9 ⟨o', ho', H9⟩ => ?_) fun _ _ z => z.elim
      refine ⟨k, Nat.lt_succ_self _, _, [(I, oI')], o', vs ++ [y], by lia, by simp; lia, ho', e1 ▸ hJ8, rfl, H9, ?_⟩
      refine W.frame _ _ _ (e1 ▸ st') fun b hb ob e => ?_
      rcases hfp b hb with rfl | ⟨ob', h1, h2⟩
      · have := (H9.led _ (.head _)).1
        have e : h'.get? b = some ob := e
        rw [hoI'] at e; cases e; exact this
      · by_cases hbI : b = I
        · subst hbI
          have := (H9.led _ (.head _)).1
          have e : h'.get? b = some ob := e
          rw [hoI'] at e; cases e; exact this
        · have l := Heap.lt_size h1
          have h3 := hφ' b ob' (by rw [hC]; exact Nat.ne_of_lt (Nat.lt_succ_of_lt l)) (Nat.ne_of_lt l) hbI h2 h1
          have h4 := H6.fz _ _ h3
          have e : h'.get? b = some ob := e
          have h4 : h'.get? b = some ob' := h4
          rw [h4] at e; cases e
          exact H9.fz _ _ h3
  refine codeAny_compStart_list loop ?_
  exact W.self 0 _ _ _ st4 loop
theorem compK_ofD {I : Addr} {oI : Obj} {fp : List Addr} {n : Nat} {Pv : Nat → Value → Prop} {Si : Nat → Heap → Prop} {Q : Value → Shared → Prop}
    (J : Nat → List Value → Prop) (W : Walks PG w A I fp [I] n Pv Si) (live : ∀ i h, Si i h → ∃ o, h.get? I = some o) (H : St c φ m ((I, oI) :: R) s) (st0 : Si 0 s.heap) (hfp : ∀ b ∈ fp, b = I ∨ ∃ o, s.heap.get? b = some o ∧ b ≠ c.P)
    (J0 : J 0 []) (hn : n ≤ 16777216)
    (hcell : (gsc.names.all fun y => decide (y.2 ≠ .cell)) = true) (hkind : gsc.kind = .function) (hx : gsc.names.lookup x = some .local)
    (hstep : ∀ i φ' m' R' s v vs (c' : Cx), c'.g0 = c.g0 → c'.P = c.P → i < n → Pv i v → J i vs → vs.length = i → St c' φ' ((x, v) :: m') R' s →
      wpAny (model PG w) A (eval elt (cEnv q gsc c'.L L cd)) (fun y s' => J (i + 1) (vs ++ [y]) ∧ St c' φ' ((x, v) :: m') R' s') NoE s)
    (hend : ∀ a o vs s, LstD o vs.toArray → vs.length = n → J n vs → St c φ m ((a, o) :: R) s → Q (.ref a) s) :
    CompK w A elt x px iter gsc pos (envOf q sc L f cd) Q (.ref I) s :=
  compK_ofG (RR := fun acc cenv r s' => ∃ m, s'.heap.Ns cenv.locals m ∧ ∀ h', Heap.SameBut cenv.locals s'.heap h' →
            match r with | .ok _ => Q acc { s' with heap := h' } | .error x => wpAny (model PG w) A (passOn "comprehension.variables-let-go" x { cenv with scope := gsc }) Q NoE { s' with heap := h' })
    J W live H st0 hfp J0 hn hcell hkind hx hstep fun a o vs s6 cenv ho hl hJ ⟨mC, hns⟩ _ _ _ _ _ hSt => ⟨mC, hns, fun h' hs => hend a o vs _ ho hl hJ (hSt h' hs)⟩
theorem compK_of {I : Addr} {oI : Obj} {fp : List Addr} {n : Nat} {Pv : Nat → Value → Prop} {Si : Nat → Heap → Prop} {Q : Value → Shared → Prop}
    (J : Nat → List Value → Prop) (W : Walks PG w A I fp [I] n Pv Si) (live : ∀ i h, Si i h → ∃ o, h.get? I = some o) (H : St c φ m ((I, oI) :: R) s) (st0 : Si 0 s.heap) (hfp : ∀ b ∈ fp, b = I ∨ ∃ o, s.heap.get? b = some o ∧ b ≠ c.P)
    (J0 : J 0 []) (hn : n ≤ 16777216)
    (hcell : (gsc.names.all fun y => decide (y.2 ≠ .cell)) = true) (hkind : gsc.kind = .function) (hx : gsc.names.lookup x = some .local)
    (hstep : ∀ i φ' m' R' s v vs (c' : Cx), c'.g0 = c.g0 → c'.P = c.P → i < n → Pv i v → J i vs → vs.length = i → St c' φ' ((x, v) :: m') R' s →
      wpAny (model PG w) A (eval elt (cEnv q gsc c'.L L cd)) (fun y s' => J (i + 1) (vs ++ [y]) ∧ St c' φ' ((x, v) :: m') R' s') NoE s)
    (hend : ∀ a o vs s, LstO o vs.toArray → vs.length = n → J n vs → St c φ m ((a, o) :: R) s → Q (.ref a) s) :
    CompK w A elt x px iter gsc pos (envOf q sc L f cd) Q (.ref I) s :=
  compK_ofD J W live H st0 hfp J0 hn hcell hkind hx hstep fun a o vs s ho => hend a o vs s ho.1
end
section
variable {P : Addr} {w : World} {A : Around} {c : Cx} {φ : Fz} {m : List (Str × Value)} {R : List (Addr × Obj)} {s : Shared} {q : Str} {gsc : Scope} {f L : Addr} {cd : Value} {x : Str} {pos px : Pos} {elt iter : Expr}
theorem comp_text {l : List Nat} {t : Tok} {Q : Value → Shared → Prop} (J : Nat → List Value → Prop) (hh : A.handled = none) (H : St c φ m R s) (J0 : J 0 []) (hn : l.length ≤ 16777216)
    (hcell : (gsc.names.all fun y => decide (y.2 ≠ .cell)) = true) (hkind : gsc.kind = .function) (hx : gsc.names.lookup x = some .local)
    (hstep : ∀ i φ' m' R' s u vs (c' : Cx) (hi : i < l.length), c'.g0 = c.g0 → c'.P = c.P → J i vs → vs.length = i → St c' φ' ((x, .str (S [l[i]]) u) :: m') R' s →
      wpAny (model PG w) A (eval elt (cEnv q gsc c'.L L cd)) (fun y s' => J (i + 1) (vs ++ [y]) ∧ St c' φ' ((x, .str (S [l[i]]) u) :: m') R' s') NoE s)
    (hend : ∀ a o vs s, LstO o vs.toArray → vs.length = l.length → J l.length vs → St c φ m ((a, o) :: R) s → Q (.ref a) s) :
    wpAny (model PG w) A (pyIter (.str (S l) t)) (CompK w A elt x px iter gsc pos (envOf q sc L f cd) Q) NoE s := by
  refine wpAny_pyIter_strU ?_
  have H1 := H.push { cls := .type (strIterType (S l)), data := .fields #[.str (S l) t, .int 0 0] } s.toks
  have W : Walks PG w A s.heap.objs.size [s.heap.objs.size] [s.heap.objs.size] l.length (SignAt (S l)) (fun i h => h.IsStrIter s.heap.objs.size (strIterType (S l)) (S l) t i) := by
    cases ha : (S l).cps.all (· < 128)
    · have e : strIterType (S l) = "str_iterator" := by simp [strIterType, ha]
      rw [e]; exact Walks.strWide hh s.heap.objs.size (S l) t
    · have e : strIterType (S l) = "str_ascii_iterator" := by simp [strIterType, ha]
      rw [e]; exact Walks.strAscii hh s.heap.objs.size (S l) t
  have st0 : (s.heap.push { cls := .type (strIterType (S l)), data := .fields #[.str (S l) t, .int 0 0] }).IsStrIter s.heap.objs.size (strIterType (S l)) (S l) t 0 := ⟨_, Heap.get?_push_size _ rfl, rfl, rfl⟩
  refine compK_of J W (fun i h st => let ⟨o, e, _⟩ := st; ⟨o, e⟩) H1 st0 (fun b hb => .inl (List.mem_singleton.mp hb)) J0 hn hcell hkind hx (fun i φ' m' R' s v vs c' eg eP hi hv hJ hl H' => ?_) hend
  obtain ⟨k, u, hk, rfl⟩ := hv
  have hk : l.toArray[i]? = some k := hk
  rw [List.getElem?_toArray, List.getElem?_eq_getElem hi] at hk
  cases hk
  exact hstep i φ' m' R' s u vs c' hi eg eP hJ hl H'
theorem comp_listG {a : Addr} {items : Array Value} {RR : Value → Env → Result → Shared → Prop} (J : Nat → List Value → Prop) (hh : A.handled = none) (H : St c φ m R s) (hl : s.heap.IsList a items) (haP : a ≠ c.P) (J0 : J 0 []) (hn : items.size ≤ 16777216)
    (hcell : (gsc.names.all fun y => decide (y.2 ≠ .cell)) = true) (hkind : gsc.kind = .function) (hx : gsc.names.lookup x = some .local)
    (hstep : ∀ i φ' m' R' s vs (c' : Cx) (hi : i < items.size), c'.g0 = c.g0 → c'.P = c.P → J i vs → vs.length = i → St c' φ' ((x, items[i]) :: m') R' s →
      wpAny (model PG w) A (eval elt (cEnv q gsc c'.L L cd)) (fun y s' => J (i + 1) (vs ++ [y]) ∧ St c' φ' ((x, items[i]) :: m') R' s') NoE s)
    (hend : ∀ a o vs s6 cenv, LstD o vs.toArray → vs.length = items.size → J items.size vs → (∃ mC, s6.heap.Ns cenv.locals mC) → cenv.locals ≠ c.L → φ cenv.locals = none → (∀ p ∈ (a, o) :: R, p.1 ≠ cenv.locals) → c.P ≠ cenv.locals → c.g0.objs.size ≤ cenv.locals →
      (∀ h', Heap.SameBut cenv.locals s6.heap h' → St c φ m ((a, o) :: R) { s6 with heap := h' }) → RR (.ref a) cenv (.ok .next) s6) :
    wpAny (model PG w) A (pyIter (.ref a)) (CompG w A elt x px iter gsc pos (envOf q sc L f cd) RR) NoE s := by
  obtain ⟨ob, hob, hlo⟩ := id hl
  have hne : a ≠ s.heap.objs.size := Nat.ne_of_lt (Heap.lt_size hob)
  refine wpAny_pyIter_list hl ?_
  have H1 := H.push { cls := .type "list_iterator", data := .fields #[.ref a, .int 0 0] } s.toks
  have hg : (s.heap.push { cls := .type "list_iterator", data := .fields #[.ref a, .int 0 0] }).IsListIter s.heap.objs.size a 0 := ⟨_, Heap.get?_push_size _ rfl, rfl, rfl⟩
  refine compK_ofG J (Walks.list hh s.heap.objs.size a hne items) (fun i h st => let ⟨⟨o, e, _⟩, _⟩ := st; ⟨o, e⟩) H1 ⟨hg, ⟨ob, Heap.get?_push_of_some _ hob, hlo⟩⟩ (fun b hb => ?_) J0 hn hcell hkind hx (fun i φ' m' R' s v vs c' eg eP hi hv hJ hl H' => ?_) hend
  · rcases List.mem_cons.mp hb with rfl | hb
    · exact .inl rfl
    · rw [List.mem_singleton.mp hb]; exact .inr ⟨ob, Heap.get?_push_of_some _ hob, haP⟩
  · rw [Array.getElem?_eq_getElem hi] at hv
    cases hv
    exact hstep i φ' m' R' s vs c' hi eg eP hJ hl H'
end
theorem St.butC {c : Cx} {φ : Fz} {m : List (Str × Value)} {R : List (Addr × Obj)} {s : Shared} (H : St c φ m R s) {C : Addr} {h' : Heap} (hs : Heap.SameBut C s.heap h') (h1 : C ≠ c.L) (h2 : φ C = none) (h3 : ∀ p ∈ R, p.1 ≠ C) (h4 : c.P ≠ C) (h5 : c.g0.objs.size ≤ C) : St c φ m R { s with heap := h' } :=
  ⟨H.ns.at fun o e => (hs.2 _ (Ne.symm h1)).trans e, H.old, H.top, fun b o q => (hs.2 b (fun z => by rw [z, h2] at q; cases q)).trans (H.fz b o q), fun p hp => ⟨(hs.2 _ (h3 p hp)).trans (H.led p hp).1, (H.led p hp).2⟩, H.ord, H.Lφ, H.Pφ, H.Lg, H.L0, H.Plt, H.cin, H.os, H.bare,
    H.tab.but hs.extBut (fun z => absurd H.clt (Nat.not_lt.mpr (z ▸ h5))) h4⟩
section
variable {P : Addr} {w : World} {A : Around} {c : Cx} {φ : Fz} {m : List (Str × Value)} {R : List (Addr × Obj)} {s : Shared} {q : Str} {gsc sc : Scope} {f L : Addr} {cd : Value} {x y : Str} {pos px py spos : Pos} {elt iter : Expr}
def RRU (w : World) (A : Around) (y : Str) (py : Pos) (env : Env) (gsc : Scope) (Q : Flow → Shared → Prop) : Value → Env → Result → Shared → Prop := fun acc cenv r s' => match r with
      | .ok _ => wpAny (model PG w) A (assign (.Name y py) env acc) (fun _ s'' => ∃ m, s''.heap.Ns cenv.locals m ∧ ∀ h', Heap.SameBut cenv.locals s''.heap h' → Q .next { s'' with heap := h' }) NoE s'
      | .error x => ∃ m, s'.heap.Ns cenv.locals m ∧ ∀ h', Heap.SameBut cenv.locals s'.heap h' → wpAny (model PG w) A (passOn "comprehension.variables-let-go" x { cenv with scope := gsc }) (fun (_ : Value) s' => Q .next s') NoE { s' with heap := h' }
theorem r_assign_listcomp {env : Env} {Q : Flow → Shared → Prop} (hsw : swapsWith (.ListComp elt [⟨.Name x px, iter, [], 0⟩] gsc pos) (some (.Name y py)) spos.line env = pure true)
    (hfree : (gsc.names.all fun y => decide (y.2 ≠ .free)) = true) (hkind : gsc.kind = .function) (hnames : (gsc.names.all fun y => decide (y.2 = .local → gsc.names.lookup y.1 = some .local)) = true)
    (hs : ∀ x, foldedSetIterable iter env x = pure x)
    (h : wpAny (model PG w) A (eval iter env) (fun v s₁ => wpAny (model PG w) A (pyIter v) (CompG w A elt x px iter gsc pos env (RRU w A y py env gsc Q)) NoE s₁) NoE s) :
    wpAny (model PG w) A (exec (.Assign [.Name y py] (.ListComp elt [⟨.Name x px, iter, [], 0⟩] gsc pos) spos) env) Q NoE s := by
  rw [exec_Assign_Name_used _ _ _ _ hsw]
  refine wpAny_bind (wpAny_standAt (wpAny_bind ?_))
  show wpAny _ A (do let _ ← comprehension (.ListComp elt [⟨.Name x px, iter, [], 0⟩] gsc pos) gsc env _ (newList []) false (eval iter env) (some (assign (.Name y py) env))) _ _ s
  exact wpAny_bind (wpAny_mono (wpAny_comprehension_use (Q := fun _ s' => Q .next s') rfl hs (fun y hy => of_decide_eq_true (List.all_eq_true.mp hfree y hy)) hkind (fun y hy => of_decide_eq_true (List.all_eq_true.mp hnames y hy)) h)
    (fun _ s' hq => wpAny_pure (wpAny_pure hq)) fun _ _ e => e)
theorem r_use {v : Value} {cenv : Env} {Q : Flow → Shared → Prop} (hy : sc.names.lookup y = some .local) (hk : (sc.kind == .class || (sc.kind == .module && c.L != mainGlobals)) = false) (hns : ∃ mC, s.heap.Ns cenv.locals mC) (h1 : cenv.locals ≠ c.L) (h2 : φ cenv.locals = none) (h3 : ∀ p ∈ R, p.1 ≠ cenv.locals) (h4 : c.P ≠ cenv.locals) (h5 : c.g0.objs.size ≤ cenv.locals)
    (hSt : ∀ h', Heap.SameBut cenv.locals s.heap h' → St c φ m R { s with heap := h' }) (h : ∀ s', St c φ ((y, v) :: m) R s' → Q .next s') : RRU w A y py (envOf q sc c.L f cd) gsc Q v cenv (.ok .next) s := by
  show wpAny _ _ _ _ _ _
  have H := hSt s.heap ⟨rfl, fun _ _ => rfl⟩
  have H : St c φ m R s := H
  refine PyProof.Rows.assign_Name ?_
  refine wpAny_storeName_local (env := envOf q sc c.L f cd) hy H.ns (fun h' hn hs => ?_) hk
  obtain ⟨mC, hns⟩ := hns
  exact ⟨mC, hns.sameBut hs h1, fun h'' hs2 => h _ ((H.store hn hs).butC hs2 h1 h2 h3 h4 h5)⟩
end
section
variable {P : Addr} {w : World} {A : Around} {c : Cx} {φ : Fz} {m : List (Str × Value)} {R : List (Addr × Obj)} {s : Shared} {q : Str} {gsc : Scope} {f L : Addr} {cd : Value} {x : Str} {pos px : Pos} {elt iter : Expr}
/-- texts in a list -/
def Txts (vs : List Value) (ps : List (List Nat)) : Prop := ∃ lt : List (Str × Tok), vs = strValues lt ∧ lt.map (·.1) = ps.map S
theorem Txts.nil : Txts [] [] := ⟨[], rfl, rfl⟩
theorem Txts.snoc {vs : List Value} {ps : List (List Nat)} {p : List Nat} {t : Tok} (h : Txts vs ps) : Txts (vs ++ [.str (S p) t]) (ps ++ [p]) := by
  obtain ⟨lt, rfl, e⟩ := h
  exact ⟨lt ++ [(S p, t)], by simp [strValues], by simp [e]⟩
theorem joinS (ps : List (List Nat)) : Txt.join (Str.ofString "") (ps.map S) = S ps.flatten := by
  show Builtin.Str.glued _ _ = _
  rw [StrLaws.glued_eq_join]
  have : ∀ l : List Str, Str.join (Str.ofString "") l = S (l.flatMap fun x => x.cps.toList) := by
    intro l
    induction l with
    | nil => rfl
    | cons x r ih =>
      cases r with
      | nil => rw [List.flatMap_cons, List.flatMap_nil, List.append_nil]; exact S_list x
      | cons y r =>
        have e : Str.join (Str.ofString "") (x :: y :: r) = x ++ Str.ofString "" ++ Str.join (Str.ofString "") (y :: r) := rfl
        rw [e, ih]
        have e0 : x ++ Str.ofString "" = x := by
          have : Str.ofString "" = S [] := by decide +kernel
          rw [this, S_list x, S_append, List.append_nil]
        rw [e0]
        conv => lhs; rw [S_list x]
        rw [S_append]; simp only [List.flatMap_cons]
  rw [this, List.flatMap_map]
  congr 1
  induction ps with
  | nil => rfl
  | cons p r ih => rw [List.flatMap_cons, List.flatten_cons, ih]; rfl
theorem foldl_len' (l : List Str) : ∀ a : Nat, l.foldl (fun n x => n + x.length + 0) a = a + (l.map (·.length)).sum := by
  induction l with
  | nil => intro a; simp
  | cons x r ih => intro a; rw [List.foldl_cons, ih, List.map_cons, List.sum_cons]; lia
theorem joinOkS (ps : List (List Nat)) (h : ps.flatten.length ≤ 16777216) : JoinOk (Str.ofString "") (ps.map S) = true := by
  have e0 : (Str.ofString "").length = 0 := by decide +kernel
  unfold JoinOk Builtin.Str.tooLong
  rw [e0, List.foldl_toArray, foldl_len', Nat.zero_add, List.map_map]
  have e : (ps.map ((·.length) ∘ S)).sum = ps.flatten.length := by
    rw [List.length_flatten]
    refine congrArg List.sum (List.map_congr_left fun p _ => S_length p)
  rw [e, sizeLine_eq]
  simpa using h
theorem r_join {a : Addr} {o : Obj} {vs : List Value} {ps : List (List Nat)} {t : Tok} {Q : Value → Shared → Prop} (H : St c φ m ((a, o) :: R) s) (ho : LstO o vs.toArray) (hv : Txts vs ps) (hz : ps.flatten.length ≤ 16777216)
    (h : ∀ t s', St c φ m R s' → Q (.str (S ps.flatten) t) s') : wpAny (model PG w) A (call (.builtin "str.join") [.str (Str.ofString "") t, .ref a]) Q NoE s := by
  obtain ⟨lt, rfl, e⟩ := hv
  exact SC.join (H.isLst (.head _) ho) e (joinOkS ps hz) fun t' k => by rw [joinS]; exact h _ _ ((H.toks k).tail 1)
end
section
variable {K : Frag} {P : Addr} {w : World} {A : Around} {c : Cx} {φ : Fz} {m : List (Str × Value)} {R : List (Addr × Obj)} {s : Shared} {t u : Tok} {Q : Value → Shared → Prop}
theorem r_add_int {a b : Int} (H : St c φ m R s) (h : ∀ t s', St c φ m R s' → Q (.int (a + b) t) s') : wpAny (model PG w) A (binaryOp .Add (.int a t) (.int b u)) Q NoE s := add_int (h _ _ (H.toks _))
theorem r_add_nat {a b : Nat} {i : Int} (hi : i = (b : Int)) (H : St c φ m R s) (h : ∀ t s', St c φ m R s' → Q (.int ((a + b : Nat) : Int) t) s') : wpAny (model PG w) A (binaryOp .Add (.int a t) (.int i u)) Q NoE s := by
  subst hi
  exact add_int (by have := h s.toks _ (H.toks (s.toks + 1)); rwa [Int.natCast_add] at this)
theorem r_mod_nat {a b : Nat} {i : Int} (hi : i = (b : Int)) (H : St c φ m R s) (hb : 0 < b) (h : ∀ t s', St c φ m R s' → Q (.int ((a % b : Nat) : Int) t) s') : wpAny (model PG w) A (binaryOp .Mod (.int a t) (.int i u)) Q NoE s := by
  subst hi
  refine mod_int' (by lia) ?_
  have e : (a : Int).fmod (b : Int) = ((a % b : Nat) : Int) := by rw [Int.fmod_eq_emod_of_nonneg _ (by lia)]; rfl
  rw [e]; exact h _ _ (H.toks _)
theorem r_mod_int {a : Int} {b : Nat} {i : Int} (hi : i = (b : Int)) (H : St c φ m R s) (hb : 0 < b) (h : ∀ (k : Nat) t s', k < b → St c φ m R s' → Q (.int (k : Int) t) s') : wpAny (model PG w) A (binaryOp .Mod (.int a t) (.int i u)) Q NoE s := by
  subst hi
  refine mod_int' (by lia) ?_
  have e : a.fmod (b : Int) = ((a % (b : Int)).toNat : Int) := by
    rw [Int.fmod_eq_emod_of_nonneg _ (by lia)]
    have := Int.emod_nonneg a (show (b : Int) ≠ 0 by lia); lia
  rw [e]
  exact h _ _ _ (by have := Int.emod_lt_of_pos a (show (0 : Int) < b by lia); have := Int.emod_nonneg a (show (b : Int) ≠ 0 by lia); lia) (H.toks _)
theorem r_fdiv_nat {a b : Nat} {i : Int} (hi : i = (b : Int)) (H : St c φ m R s) (hb : 0 < b) (hb2 : b < 1073741824) (h : ∀ t s', St c φ m R s' → Q (.int ((a / b : Nat) : Int) t) s') : wpAny (model PG w) A (binaryOp .FloorDiv (.int a t) (.int i u)) Q NoE s := by
  subst hi
  refine floordiv_int (by lia) ?_ (.inl (PyProof.noPylong_small (by lia)))
  have e : (a : Int).fdiv (b : Int) = ((a / b : Nat) : Int) := by rw [Int.fdiv_eq_ediv_of_nonneg _ (by lia)]; rfl
  rw [e]; exact h _ _ (H.toks _)
theorem r_chr {i : Int} (H : St c φ m R s) (h0 : 0 ≤ i) (h1 : i ≤ 1114111) (h : ∀ t s', St c φ m R s' → Q (.str (S [i.toNat]) t) s') : wpAny (model PG w) A (call (.builtin "chr") [.int i t]) Q NoE s := chr_of_range h0 h1 (h _ _ (H.toks _))
theorem r_ifdiv_nat {a b : Nat} {i : Int} (hi : i = (b : Int)) (H : St c φ m R s) (hb : 0 < b) (hb2 : b < 1073741824) (h : ∀ t s', St c φ m R s' → Q (.int ((a / b : Nat) : Int) t) s') : wpAny (model PG w) A (inplaceOp .FloorDiv (.int a t) (.int i u)) Q NoE s := by
  subst hi
  have e : (a : Int).fdiv (b : Int) = ((a / b : Nat) : Int) := by rw [Int.fdiv_eq_ediv_of_nonneg _ (by lia)]; rfl
  refine AutoIntOps.ifloordiv_1 (by simp; lia) (by rw [PyProof.noPylong_small (by lia)]; decide) ?_
  rw [e]
  exact h _ _ (H.toks _)
theorem r_sub_nat {a b : Nat} {i : Int} (hi : i = (b : Int)) (hab : b ≤ a) (H : St c φ m R s) (h : ∀ t s', St c φ m R s' → Q (.int ((a - b : Nat) : Int) t) s') : wpAny (model PG w) A (binaryOp .Sub (.int a t) (.int i u)) Q NoE s := by
  subst hi
  refine sub_int ?_
  have e : (a : Int) - (b : Int) = ((a - b : Nat) : Int) := by lia
  rw [e]; exact h _ _ (H.toks _)
theorem r_isub_nat {a b : Nat} {i : Int} (hi : i = (b : Int)) (hab : b ≤ a) (H : St c φ m R s) (h : ∀ t s', St c φ m R s' → Q (.int ((a - b : Nat) : Int) t) s') : wpAny (model PG w) A (inplaceOp .Sub (.int a t) (.int i u)) Q NoE s := by
  subst hi
  refine AutoIntOps.isub_0 ?_
  have e : (a : Int) - (b : Int) = ((a - b : Nat) : Int) := by lia
  rw [e]; exact h _ _ (H.toks _)
theorem r_truthy_nat {a : Nat} {Q : Bool → Shared → Prop} (h : Q (decide (a ≠ 0)) s) : wpAny (model PG w) A (truthy (.int a t)) Q NoE s := by
  refine truthy_int ?_
  have e : ((a : Int) != 0) = decide (a ≠ 0) := by
    by_cases ha : a = 0
    · subst ha; rfl
    · have : (a : Int) ≠ 0 := by lia
      simp [ha]
  rw [e]; exact h
theorem r_eq_nat {a b : Nat} {i : Int} (hi : i = (b : Int)) (h : Q (.bool (decide (a = b))) s) : wpAny (model PG w) A (compareOp .Eq (.int a t) (.int i u)) Q NoE s := by
  subst hi
  refine eq_int ?_
  have e : ((a : Int) == (b : Int)) = decide (a = b) := by
    by_cases ha : a = b
    · subst ha; simp
    · rw [decide_eq_false ha, beq_eq_false_iff_ne]; lia
  rw [e]; exact h
theorem r_mod_lit {a n : Nat} (H : St c φ m R s) (hb : 0 < (OfNat.ofNat n : Nat)) (h : ∀ t s', St c φ m R s' → Q (.int ((a % OfNat.ofNat n : Nat) : Int) t) s') : wpAny (model PG w) A (binaryOp .Mod (.int a t) (.int (OfNat.ofNat n) u)) Q NoE s := r_mod_nat (b := OfNat.ofNat n) rfl H hb h
theorem r_fdiv_lit {a n : Nat} (H : St c φ m R s) (hb : 0 < (OfNat.ofNat n : Nat)) (hb2 : (OfNat.ofNat n : Nat) < 1073741824) (h : ∀ t s', St c φ m R s' → Q (.int ((a / OfNat.ofNat n : Nat) : Int) t) s') : wpAny (model PG w) A (binaryOp .FloorDiv (.int a t) (.int (OfNat.ofNat n) u)) Q NoE s := r_fdiv_nat (b := OfNat.ofNat n) rfl H hb hb2 h
theorem r_ifdiv_lit {a n : Nat} (H : St c φ m R s) (hb : 0 < (OfNat.ofNat n : Nat)) (hb2 : (OfNat.ofNat n : Nat) < 1073741824) (h : ∀ t s', St c φ m R s' → Q (.int ((a / OfNat.ofNat n : Nat) : Int) t) s') : wpAny (model PG w) A (inplaceOp .FloorDiv (.int a t) (.int (OfNat.ofNat n) u)) Q NoE s := r_ifdiv_nat (b := OfNat.ofNat n) rfl H hb hb2 h
theorem r_sub_lit {a n : Nat} (hab : (OfNat.ofNat n : Nat) ≤ a) (H : St c φ m R s) (h : ∀ t s', St c φ m R s' → Q (.int ((a - OfNat.ofNat n : Nat) : Int) t) s') : wpAny (model PG w) A (binaryOp .Sub (.int a t) (.int (OfNat.ofNat n) u)) Q NoE s := r_sub_nat (b := OfNat.ofNat n) rfl hab H h
theorem r_isub_lit {a n : Nat} (hab : (OfNat.ofNat n : Nat) ≤ a) (H : St c φ m R s) (h : ∀ t s', St c φ m R s' → Q (.int ((a - OfNat.ofNat n : Nat) : Int) t) s') : wpAny (model PG w) A (inplaceOp .Sub (.int a t) (.int (OfNat.ofNat n) u)) Q NoE s := r_isub_nat (b := OfNat.ofNat n) rfl hab H h
theorem r_add_lit {a n : Nat} (H : St c φ m R s) (h : ∀ t s', St c φ m R s' → Q (.int ((a + OfNat.ofNat n : Nat) : Int) t) s') : wpAny (model PG w) A (binaryOp .Add (.int a t) (.int (OfNat.ofNat n) u)) Q NoE s := r_add_nat (b := OfNat.ofNat n) rfl H h
theorem r_eq_lit {a n : Nat} (h : Q (.bool (decide (a = OfNat.ofNat n))) s) : wpAny (model PG w) A (compareOp .Eq (.int a t) (.int (OfNat.ofNat n) u)) Q NoE s := r_eq_nat (b := OfNat.ofNat n) rfl h
theorem fetch {K : Frag} {a : Addr} {o : Obj} {p : Obj → Prop} (h : K.lookup a = some o) (g : p o) : ∃ o, K.lookup a = some o ∧ p o := ⟨o, h, g⟩
theorem r_list_item {l : Addr} {items : Array Value} {n : Nat} {i : Int} {v : Value} {value slice : Expr} (hl : s.heap.IsList l items) (hi : i = (n : Int)) (hn : n < 9223372036854775808) (hv : items[n]? = some v) (h : Q v s)
    (hs : subscripted slice false (.ref l) (.int i u) = operate [.ref l, .int i u] (getItem (.ref l) (.int i u)))
    (ht : ∀ r, letTemporaryGo value (.ref l) r = pure ()) : wpAny (model PG w) A (subscriptTail value slice (.ref l) (.int i u)) Q NoE s := by
  subst hi
  exact tail_of_ItemOn ⟨"list", _, list_getitem_lookup, hl.typeIs, wpAny_getItem_list hl (by lia) (by lia) (by simpa using hv) h⟩ hs ht
theorem r_item_of {x : Str} (l : List Nat) {i : Int} (n : Nat) {value slice : Expr} (hx : x = S l) (H : St c φ m R s) (hi : i = (n : Int)) (h1 : n < l.length) (h2 : n < 9223372036854775808)
    (h : ∀ t' s', St c φ m R s' → Q (.str (S [l[n]]) t') s')
    (hs : ∀ x, subscripted slice false (.str x t) (.int i u) = operate [.str x t, .int i u] (getItem (.str x t) (.int i u)))
    (ht : ∀ x r, letTemporaryGo value (.str x t) r = pure ()) :
    wpAny (model PG w) A (subscriptTail value slice (.str x t) (.int i u)) Q NoE s := by
  subst hx; exact r_item n H hi h1 h2 h hs ht
theorem r_while {test : Expr} {body orelse : List Stmt} {env : Env} {Q : Flow → Shared → Prop} (I : Nat → Shared → Prop)
    (h : ∀ n s, I n s → wpAny (model PG w) A (PySem.isTrue test env (eval test env)) (fun b s₂ => if b = true then wpAny (model PG w) A (execs body env) (fun fl s₃ => match fl with
        | .next => ∃ m, m < n ∧ I m s₃
        | .cont => ∃ m, m < n ∧ I m s₃
        | .brk => Q .next s₃
        | .ret v => Q (.ret v) s₃) NoE s₂ else wpAny (model PG w) A (execs orelse env) Q NoE s₂) NoE s) (n : Nat) (h0 : I n s) :
    codeAny (model PG w) A (.whileLoop test body orelse env) (fun r s' => match r with | .ok f => Q f s' | .error e => cameBackBy (model PG w) A env NoE e s') s := by
  refine codeAny_whileLoop I (fun n s hI => wpAny_mono (h n s hI) (fun b s₂ z => ?_) fun _ _ z => z.elim) n h0
  cases b with
  | true => exact wpAny_mono z (fun fl s₃ z => by cases fl <;> exact z) fun _ _ z => z.elim
  | false => exact wpAny_mono z (fun fl s₃ z => z) fun _ _ z => z.elim
end
section
variable {K : Frag} {P : Addr} {w : World} {A : Around} {c : Cx} {φ : Fz} {m : List (Str × Value)} {R : List (Addr × Obj)} {s : Shared} {x C dx p f : Addr} {ox od : Obj} {name : Str} {v : Value} {i : Nat}

theorem St.fr (H : St c φ m R s) : Fr c.g0 c.L s.heap (fun y => m.lookup y) := ⟨H.ns, fun b o e => H.fz b o (H.top b o e), H.Lg⟩
/-- reading a slot -/
theorem r_getslot {expr : Bool} {Q : Value → Shared → Prop} (H : St c φ m R s) (G : Gd K c.g0 P) (I : InstAt s.heap x ox C (some od)) (hg : plainGet K C name = true) (hc : isClsIn K C = true)
    (ha : findIn K (.ref C) name = some (some (.ref p))) (hn : specialIn K (.ref p) "__get__" = some (some (.builtin "member_descriptor.__get__"))) (ht : takesIn K (.ref p) = some true) (hp : slotIn K p C = some i)
    (hv : (ox.slots[i]?).join = some v) (hh : handedIn v = true) (h : ∀ s', St c φ m R s' → Q v s') : wpAny (model PG w) A (getAttr (.ref x) name expr) Q NoE s :=
  get_slot H.fr G.X I hg hc ha hn ht hp hv hh (h _ (H.toks _))
theorem findObj_clsN {K : Frag} {od : Option Obj} {a : Value} {cd : ClassData} (hc : clsIn K C = some cd) (hd : cd.hasDict = false) (ha : findIn K (.ref C) name = some (some a)) (hn : specialIn K a "__get__" = some none) (hv : handedIn a = true) (hcp : copiedNames.contains name = false) :
    findObj K C od name = some (.value a) := by
  unfold findObj
  have ho : W.ownOf cd od name = some none := by unfold W.ownOf; rw [hd]; rfl
  rw [hc, Option.bind_some, ha, Option.bind_some]
  simp only [hn, Option.bind_some, ho, hcp, Bool.false_and, Bool.false_eq_true, if_false, hv, if_true]
/-- reading a class's value through an object -/
theorem r_getcls {expr : Bool} {Q : Value → Shared → Prop} {oc : Obj} {cd : ClassData} (H : St c φ m R s) (G : Gd K c.g0 P) (I : InstAt s.heap x ox C (some od)) (hg : plainGet K C name = true) (hc : K.lookup C = some oc) (hcd : oc.data = .cls cd) (hd : cd.hasDict = false)
    (ha : findIn K (.ref C) name = some (some v)) (hn : specialIn K v "__get__" = some none) (hv : handedIn v = true) (hcp : copiedNames.contains name = false) (h : ∀ s', St c φ m R s' → Q v s') : wpAny (model PG w) A (getAttr (.ref x) name expr) Q NoE s := by
  have hcl : clsIn K C = some cd := by
    unfold clsIn
    rw [hc]
    obtain ⟨a1, a2, a3, a4⟩ := oc
    simp only at hcd
    subst hcd; rfl
  exact get_value (H.kIn G) I (plainGet_of hg).1 (findObj_clsN hcl hd ha hn hv hcp) hv (h _ (H.toks _))
/-- a method -/
theorem r_method {pl : Sem Bool} {Q : Value × List Value → Shared → Prop} (H : St c φ m R s) (G : Gd K c.g0 P) (I : InstAt s.heap x ox C (some od)) (hg : plainGet K C name = true)
    (hf : findIn K (.ref C) name = some (some (.ref f))) (ht : isFn K (.ref f) = true) (hs : shadowIn (some od) name = some false) (h : Q (.ref f, [.ref x]) s) : wpAny (model PG w) A (getMethod (.ref x) name pl) Q NoE s :=
  method_fn (H.kIn G) I (plainGet_of hg).1 (plainGet_of hg).2 hf (beq_iff_eq.mp ht) hs h
/-- a function of a class, by the class's name -/
theorem r_clsfn {mc a : Value} {pl : Sem Bool} {Q : Value × List Value → Shared → Prop} (H : St c φ m R s) (G : Gd K c.g0 P) (hg : specialIn K (.ref C) "__getattribute__" = some (some (.builtin "type.__getattribute__"))) (_hm : typeIn K (.ref C) = some mc) (hr : readsIn K C mc = true) (e : findCls K (.ref C) mc name = some (.val a)) (hh : handedIn a = true)
    (h : ∀ s', St c φ m R s' → Q (a, []) s') : wpAny (model PG w) A (getMethod (.ref C) name pl) Q NoE s :=
  method_cls (H.kIn G) hg (cls_value (H.kIn G) hr e hh (h _ (H.toks _)))
theorem Upd.headZ {o : Obj} {R Z : List (Addr × Obj)} (hn : ((x, o) :: R).map (·.1) |>.Nodup) (hz : ∀ p ∈ Z, p.1 ∉ ((x, o) :: R).map (·.1)) : ∀ p ∈ R ++ Z, p.1 ≠ x := by
  have nd := List.nodup_cons.mp (by have := hn; rwa [List.map_cons] at this)
  intro p hp e
  rcases List.mem_append.mp hp with hp | hp
  · exact nd.1 (List.mem_map.mpr ⟨p, hp, e⟩)
  · exact hz p hp (by rw [List.map_cons]; exact e ▸ List.mem_cons_self ..)
/-- storing into a slot of the object at the ledger's head -/
theorem r_setslot {ox' : Obj} {Q : Unit → Shared → Prop} (H : St c φ m ((x, ox) :: R) s) (G : Gd K c.g0 P) (I : InstAt s.heap x ox C (some od))
    (hs : findIn K (.ref C) "__setattr__" = some (some (.builtin "object.__setattr__"))) (hp : plainOver K C = true) (ht : takerIn K C name = some (some (.ref p))) (hT : typeIn K (.ref p) = some (.type "member_descriptor")) (hi : slotIn K p C = some i) (hz : i < 1000)
    (e : { ox with slots := (ox.slots ++ Array.replicate (i + 1 - ox.slots.size) none).setIfInBounds i (some v) } = ox') (hf : ox'.isFreed = false)
    (h : ∀ s', St c φ m ((x, ox') :: R) s' → Q () s') : wpAny (model PG w) A (setAttr (.ref x) name v) Q NoE s := by
  obtain ⟨Z, F, N, hZ, back⟩ := H.via
  have nx := Upd.headZ H.ord hZ
  refine set_slot F G.X N I hs hp ht hT hi hz e hf (.head nx) fun h' F' N' => ?_
  have nd := List.nodup_cons.mp (by have := H.ord; rwa [List.map_cons] at this)
  refine h _ (back m ((x, ox') :: R) _ rfl H.bare F' N' (by rw [List.map_cons]; exact List.nodup_cons.mpr nd) fun q hq => ?_)
  rcases List.mem_cons.mp hq with rfl | hq
  · exact ⟨(H.led _ (.head _)).2.1, (H.led _ (.head _)).2.2.2⟩
  · exact ⟨(H.led _ (.tail _ hq)).2.1, (H.led _ (.tail _ hq)).2.2.2⟩
theorem Rm.make {n : Nat} {vals : List Value} (r : Rm A (n + 1)) : Rm (A.under (.builtin "type.__call__" ⟨.ref C :: vals, []⟩)) n :=
  ⟨r.hh, by rw [depth_under_kw]; have := r.dp; lia, by rw [units_under_make]; have := r.un; lia⟩
/-- a class is called -/
theorem r_make {vals : List Value} {fI : Addr} {Q : Value → Shared → Prop} (H : St c φ m R s) (G : Gd K c.g0 P) (hm : makesIn K C = true) (hi : findIn K (.ref C) "__init__" = some (some (.ref fI))) (hf : typeIn K (.ref fI) = some (.type "function"))
    (h : ∀ x dx s', St c φ m ((x, instObj C dx) :: (dx, emptyDict) :: R) s' → codeAny (model PG w) (A.under (.builtin "type.__call__" ⟨.ref C :: vals, []⟩)) (.call (.ref fI) ⟨.ref x :: vals, []⟩) (RQ (fun v s'' => v = .none ∧ Q (.ref x) s'')) s') :
    wpAny (model PG w) A (call (.ref C) vals) Q NoE s := by
  refine wpAny_call ?_
  have H1 := H.push emptyDict s.toks
  have H2 := H1.push (instObj C s.heap.objs.size) s.toks
  obtain ⟨hh, g, d, t, os⟩ := s
  refine make_core (makes_of (H.kIn G) hm) (looks_findIn (H.kIn G) hi) (fun self => bind_fn (H.kIn G) self hf) (.inl rfl) ?_
  have e : (hh.push emptyDict).objs.size = hh.objs.size + 1 := Heap.size_push ..
  have h1 := h (hh.objs.size + 1) hh.objs.size _ (by rw [← e]; exact H2)
  refine codeAny_mono h1 fun r s' z => ?_
  rcases r with e | (v | _ | _ | _) <;> first | exact ⟨z.1, z.2⟩ | exact z.elim
end
/-- facts for a store into the slot name of an object of C -/
structure SetF (K : Frag) (C : Addr) (name : Str) (p : Addr) (i : Nat) : Prop where
  hs : findIn K (.ref C) "__setattr__" = some (some (.builtin "object.__setattr__"))
  hp : plainOver K C = true
  ht : takerIn K C name = some (some (.ref p))
  hT : typeIn K (.ref p) = some (.type "member_descriptor")
  hi : slotIn K p C = some i
  hz : i < 1000
abbrev ins (C dx : Addr) (sl : Array (Option Value)) : Obj := ⟨.ref C, some dx, .plain, sl⟩
section
variable {K : Frag} {P : Addr} {w : World} {A : Around} {c : Cx} {φ : Fz} {m : List (Str × Value)} {R : List (Addr × Obj)} {s : Shared} {x C dx p f : Addr} {ox od : Obj} {name : Str} {v : Value} {i : Nat}
def setL : List (Option Value) → Nat → Option Value → List (Option Value)
  | [], 0, v => [v]
  | [], i + 1, v => none :: setL [] i v
  | _ :: l, 0, v => v :: l
  | a :: l, i + 1, v => a :: setL l i v
theorem setL_ok : ∀ (l : List (Option Value)) (i : Nat) (v : Option Value), (l ++ List.replicate (i + 1 - l.length) none).set i v = setL l i v
  | [], 0, v => rfl
  | [], i + 1, v => by
    have := setL_ok [] i v
    simp only [List.length_nil, Nat.sub_zero, List.nil_append] at this ⊢
    rw [List.replicate_succ, List.set_cons_succ, this]; rfl
  | a :: l, 0, v => by simp [setL]
  | a :: l, i + 1, v => by
    have := setL_ok l i v
    rw [List.length_cons, Nat.add_sub_add_right, List.cons_append, List.set_cons_succ, this]; rfl
theorem setL_arr (l : List (Option Value)) (i : Nat) (v : Option Value) : (l.toArray ++ Array.replicate (i + 1 - l.toArray.size) none).setIfInBounds i v = (setL l i v).toArray := by
  rw [← setL_ok]; apply Array.ext'; simp
theorem r_set {l l' : List (Option Value)} {Q : Unit → Shared → Prop} (H : St c φ m ((x, ins C dx l.toArray) :: R) s) (G : Gd K c.g0 P) (hd : φ dx = some emptyDict) (F : SetF K C name p i)
    (e : setL l i (some v) = l') (h : ∀ s', St c φ m ((x, ins C dx l'.toArray) :: R) s' → Q () s') : wpAny (model PG w) A (setAttr (.ref x) name v) Q NoE s :=
  r_setslot H G ⟨H.get 0 rfl, rfl, rfl, H.fz _ _ hd⟩ F.hs F.hp F.ht F.hT F.hi F.hz (by rw [setL_arr, e]) rfl h
end
theorem r_try {w : World} {A : Around} {s : Shared} {env : Env} {body orelse : List Stmt} {h₀ : ExceptHandler} {hs : List ExceptHandler} {pos : Pos} {Q : Flow → Shared → Prop}
    (h : wpAny (model PG w) A (execs body env) (fun f s₁ => match f with | .next => wpAny (model PG w) A (execs orelse env) Q NoE s₁ | f => Q f s₁) NoE s) :
    wpAny (model PG w) A (exec (.Try body (h₀ :: hs) orelse [] pos) env) Q NoE s :=
  wpAny_Try_except (wpAny_mono h (fun f s₁ z => by cases f <;> exact z) fun _ _ z => z.elim)
/-- chunks.append -/
def bnd (d : Addr) : Obj := { cls := .type "builtin_function_or_method", data := .fields #[.builtin "list.append", .ref d] }
section
open Builtin
theorem w_not {α : Type} {M : Model} {A : Around} {E : Value → Shared → Prop} {s : Shared} {c : Bool} {a b : Sem α} {Q : α → Shared → Prop} (hc : c = false) (h : wpAny M A b Q E s) : wpAny M A (if c = true then a else b) Q E s := by
  subst hc
  exact h
theorem w_so {α : Type} {M : Model} {A : Around} {E : Value → Shared → Prop} {s : Shared} {c : Bool} {a b : Sem α} {Q : α → Shared → Prop} (hc : c = true) (h : wpAny M A a Q E s) : wpAny M A (if c = true then a else b) Q E s := by
  subst hc
  exact h
theorem slot_mget : Slot "method_descriptor" "__get__" "method_descriptor.__get__" :=
  .of (owner := "method_descriptor") (n := "__get__") (by rw [typeLookup_type, builtinLookup_eq_fast]; kernel_rfl) (by decide +kernel) (by decide +kernel) (by decide +kernel)
    (by first | exact .inl (by decide +kernel) | exact .inr (by decide +kernel)) (by rw [isSubtype_type]; kernel_rfl)
theorem entry_mget : entryFor table "method_descriptor.__get__" = some Builtin.«method_descriptor.__get__» := entryFor_of_tree (by kernel_rfl)
theorem args_mget (a b c : Value) : argsOk "method_descriptor.__get__" ⟨[a, b, c], []⟩ := by unfold argsOk; kernel_rfl
theorem told_append : Manifest.toldItsClass.contains "list.append" = false := by first | decide +kernel | kernel_rfl
theorem sub_list_list : isSubtype (.type "list") (.type "list") = pure true := by rw [isSubtype_type]; kernel_rfl
section
variable {w : World} {A : Around} {E : Value → Shared → Prop} {s : Shared} {a : Addr} {o : Obj} {xs : Array Value} {k : Nat}
theorem run_mget {Q : Fin → Shared → Prop} (hT : s.TypeIs (.ref a) "list") (h : Q (.done (.ret (.ref s.heap.objs.size))) { s with heap := s.heap.push (bnd a) }) :
    wpAny (model PG w) A (Builtin.«method_descriptor.__get__» ⟨[.builtin "list.append", .ref a, .type "list"], []⟩) Q E s := by
  unfold Builtin.«method_descriptor.__get__»
  refine wpAny_bind (wpAny_of_eq (a := (.builtin "list.append", some (.ref a), some (.type "list"))) (by first | rfl | kernel_rfl) ?_)
  dsimp only
  rw [told_append]
  refine wpAny_bind ?_
  refine wpAny_bind (wpAny_of_eq (a := ((Str.ofString "append", Value.type "list") : Str × Value)) (by first | rfl | kernel_rfl) ?_)
  refine wpAny_bind (wpAny_isInstance hT sub_list_list ?_)
  refine wpAny_pure ?_
  exact wpAny_bind (wpAny_newObj_type (wpAny_pure h))
theorem n_set : typeLookup (.type "method_descriptor") (Str.ofString "__set__") = pure none := by rw [typeLookup_type, builtinLookup_eq_fast]; kernel_rfl
theorem n_del : typeLookup (.type "method_descriptor") (Str.ofString "__delete__") = pure none := by rw [typeLookup_type, builtinLookup_eq_fast]; kernel_rfl
theorem run_ga {u : Tok} {Q : Fin → Shared → Prop} (ho : s.heap.get? a = some o) (hc : o.cls = .type "list") (hd : o.dict = none) (hdat : o.data = .seq xs k)
    (h : Q (.done (.ret (.ref s.heap.objs.size))) { s with heap := s.heap.push (bnd a) }) :
    wpAny (model PG w) A (Builtin.«object.__getattribute__» ⟨[.ref a, .str (Str.ofString "append") u], []⟩) Q E s := by
  have hT : s.TypeIs (.ref a) "list" := ⟨_, ho, hc⟩
  have hD : s.TypeIs (.builtin "list.append") "method_descriptor" := F.type_list_append
  unfold Builtin.«object.__getattribute__»
  refine wpAny_bind (wpAny_of_eq (a := (.ref a, [.str (Str.ofString "append") u])) (by first | rfl | kernel_rfl) ?_)
  dsimp only
  refine wpAny_bind (wpAny_of_eq (a := Str.ofString "append") rfl ?_)
  refine wpAny_bind (wpAny_typeOf hT ?_)
  refine wpAny_bind ?_
  unfold ObjectAttr.find
  refine wpAny_bind (wpAny_of_eq F.slot_list_append.lookup ?_)
  refine wpAny_bind (wpAny_specialOf hD slot_mget.lookup ?_)
  refine wpAny_bind ?_
  unfold ObjectAttr.dataDescriptor?
  refine wpAny_bind ?_
  unfold ObjectAttr.takesStores
  refine wpAny_bind (wpAny_specialOf hD n_set ?_)
  refine wpAny_bind (wpAny_specialOf hD n_del ?_)
  refine wpAny_pure ?_
  refine wpAny_pure ?_
  dsimp only
  unfold ObjectAttr.ownThenClass
  refine wpAny_bind ?_
  unfold ObjectAttr.inOwnDict
  refine wpAny_bind ?_
  unfold ObjectAttr.ownDict
  refine wpAny_bind (wpAny_loadPart ho ?_)
  rw [hdat]
  dsimp only
  unfold instanceDict
  refine wpAny_bind (wpAny_loadPart ho ?_)
  rw [hc, hd]
  dsimp only
  refine w_so rfl ?_
  refine wpAny_pure ?_
  refine wpAny_pure ?_
  dsimp only
  unfold ObjectAttr.copiedAttributeGuard
  refine wpAny_bind ?_
  refine w_not (by decide +kernel) ?_
  refine wpAny_pure ?_
  unfold ObjectAttr.byTheClass
  refine wpAny_bind (wpAny_rule ?_)
  refine wpAny_pure ?_
  dsimp only
  unfold ObjectAttr.bindTo
  dsimp only
  exact wpAny_bind (wpAny_holding (wpAny_call_entry slot_mget hD entry_mget (run_mget hT ⟨_, rfl, wpAny_pure h⟩) (args_mget _ _ _)))
/-- chunks.append, read -/
theorem getAttr_append {expr : Bool} {Q : Value → Shared → Prop} (ho : s.heap.get? a = some o) (hc : o.cls = .type "list") (hd : o.dict = none) (hdat : o.data = .seq xs k)
    (h : ∀ k', Q (.ref s.heap.objs.size) { s with heap := s.heap.push (bnd a), toks := k' }) : wpAny (model PG w) A (getAttr (.ref a) (Str.ofString "append") expr) Q E s := by
  have hT : ∀ k', ({ s with toks := k' } : Shared).TypeIs (.ref a) "list" := fun _ => ⟨_, ho, hc⟩
  unfold getAttr
  refine wpAny_bind (wpAny_mkText ?_)
  unfold getAttrBy
  refine wpAny_holding ?_
  refine wpAny_bind (wpAny_typeOf (hT _) ?_)
  refine wpAny_bind (wpAny_of_eq F.slot_list_getattribute.lookup ?_)
  dsimp only
  refine w_not rfl ?_
  unfold getAttrByItsOwn
  refine wpAny_bind (wpAny_of_eq (a := none) rfl ?_)
  refine wpAny_bind (wpAny_attempt ?_)
  refine wpAny_holding ?_
  unfold callGetattribute
  refine w_not (by cases expr <;> rfl) ?_
  unfold boundAndCalled
  refine wpAny_bind (wpAny_of_eq (F.slot_list_getattribute.bind _) ?_)
  refine wpAny_call_entry F.slot_list_getattribute (hT _) am_entry_list_getattribute (run_ga ho hc hd hdat ⟨_, rfl, ?_⟩) (F.args_list_getattribute_2 _ _)
  dsimp only
  exact wpAny_of_eq rfl (h _)
theorem callWith_bnd {pos : Pos} {u d : Addr} {e : Expr} {rest : List Expr} {env : Env} {Q : Value → Shared → Prop}
    (h : wpAny (model PG w) A (spliced (backTo pos (starEach (e :: rest) env))) (fun vs s₁ => s₁.heap.get? u = some (bnd d) ∧ wpAny (model PG w) A (call (.ref u) vs) Q E s₁) E s)
    (he : starEach (e :: rest) env = (false, eval e env) :: starEach rest env) (hplain : (backTo pos (starEach rest env)).any (·.1) = false) :
    wpAny (model PG w) A (callWith pos (.ref u) [] (backTo pos (starEach (e :: rest) env)) []) Q E s := by
  rw [he] at h ⊢
  have hpl : (backTo pos ((false, eval e env) :: starEach rest env)).any (·.1) = false := by show (false || (backTo pos (starEach rest env)).any (·.1)) = false; rw [hplain]; rfl
  have h := evalArgs_plain (f := .ref u) (Q := fun x s₁ => s₁.heap.get? u = some (bnd d) ∧ wpAny (model PG w) A (call (.ref u) ([] ++ x.pos) x.kw) Q E s₁) h
  unfold callWith
  refine wpAny_bind (wpAny_holding (wpAny_mono h (fun x s₁ h₁ => wpAny_bind (wpAny_standAt ?_)) fun _ _ x => x))
  obtain ⟨ho, hcall⟩ := h₁
  simp only [hpl, List.any_nil, Bool.or_false]
  refine wpAny_bind (m := keeperOf (.ref u)) ?_
  unfold keeperOf
  refine wpAny_bind (wpAny_load ho ?_)
  simp only [bnd, show (Value.type "builtin_function_or_method" != Value.type "method") = true by decide, show (Value.type "builtin_function_or_method" == Value.type "builtin_function_or_method" || Value.type "builtin_function_or_method" == Value.type "method-wrapper") = true by decide, if_true]
  refine wpAny_pure ?_
  exact wpAny_bind (wpAny_mono hcall (fun r s₂ hr => wpAny_bind (wpAny_holding (wpAny_point (wpAny_pure hr)))) fun _ _ x => x)
theorem quiet_append {as : Args} : (Code.builtin "list.append" as).quiet = true := Code.quiet_builtin _ (by decide +kernel)
theorem sub_list_module : isSubtype (.type "list") (.type "module") = pure false := by rw [isSubtype_type]; kernel_rfl
def sigA : Manifest.Signature := (Manifest.signature? "list.append").get (by decide +kernel)
theorem sig_append : Manifest.signature? "list.append" = some sigA := by unfold sigA; rw [Option.some_get]
theorem kind_append : builtinKind "list.append" = some Manifest.AttrKind.method := by first | decide +kernel | kernel_rfl
theorem vararg_append : Manifest.varargsMethods.contains "list.append" = false := by first | decide +kernel | kernel_rfl
theorem bind_append (a v : Value) : Bind.checkArgs "list.append" { machinery := sigA.machinery, full := toString (Bind.lastOf "list") ++ toString "." ++ toString (Bind.lastOf "list.append"), short := sigA.short, receiver := sigA.receiver, params := sigA.params } ⟨[a, v], []⟩ = pure () := by kernel_rfl
theorem check_append {d : Addr} {v : Value} {Q : Unit → Shared → Prop} {o : Obj} {its : Array Value} {n : Nat} (ho : s.heap.get? d = some o) (hc : o.cls = .type "list") (hdat : o.data = .seq its n) (h : Q () s) : wpAny (model PG w) A (checkBoundCall "list.append" ⟨[.ref d, v], []⟩) Q E s := by
  have hT : s.TypeIs (.ref d) "list" := ⟨_, ho, hc⟩
  unfold checkBoundCall
  rw [sig_append, kind_append]
  dsimp only
  refine w_not (by decide) ?_
  refine wpAny_bind (wpAny_isInstance hT sub_list_module ?_)
  refine w_not (by rw [vararg_append]; rfl) ?_
  refine wpAny_bind ?_
  refine wpAny_bind (m := loadHead d) (wpAny_loadPart ho ?_)
  rw [hdat]
  refine wpAny_pure ?_
  refine w_not rfl ?_
  refine wpAny_bind (wpAny_typeOf hT ?_)
  exact wpAny_of_eq (bind_append _ _) h
theorem call_bnd {u d : Addr} {v : Value} {Q : Value → Shared → Prop} (hb : s.heap.get? u = some (bnd d)) {items : Array Value} (hl : s.heap.IsList d items) (hz : items.size ≤ sizeLine)
    (h : ∀ h', h'.IsList d (items.push v) → Heap.SameBut d s.heap h' → Q .none { s with heap := h' }) : wpAny (model PG w) A (call (.ref u) [v]) Q E s := by
  refine wpAny_call (codeAny_of_tree ?_)
  show wpAny _ A.in1 (callAny (.ref u) ⟨[v], []⟩) _ _ s
  simp only [callAny]
  refine wpAny_bind (wpAny_load hb ?_)
  simp only [bnd, show (Value.type "builtin_function_or_method" == Value.type "method" || Value.type "builtin_function_or_method" == Value.type "builtin_function_or_method" || Value.type "builtin_function_or_method" == Value.type "method-wrapper") = true by decide, if_true]
  refine w_so (by decide) ?_
  obtain ⟨o, ho, hc, n, hd⟩ := id hl
  refine wpAny_bind (check_append ho hc hd ?_)
  refine wpAny_bind (wpAny_pure (wpAny_pure ?_))
  refine ⟨quiet_append, ?_⟩
  refine codeAny_builtin entry_list_append ?_
  obtain ⟨n', hd'⟩ := Obj.data_mapSeq hd (·.push v)
  show wpAny _ _ (updateSeq d (·.push v) >>= fun _ => ret .none) _ _ s
  refine wpAny_bind ?_
  refine wpAny_updateSeq ho hd (wpAny_pure (h _ ⟨_, Heap.get?_update_self _ ho (Obj.isFreed_of_seq hd'), (Obj.cls_mapSeq ..).trans hc, n', hd'⟩ (Heap.SameBut.update ..)))
end
end
section
variable {K : Frag} {P : Addr} {w : World} {A : Around} {c : Cx} {φ : Fz} {m : List (Str × Value)} {R : List (Addr × Obj)} {s : Shared} {q : Str} {v : Value}
/-- an empty list, fresh -/
theorem r_list0 {Q : Value → Shared → Prop} (H : St c φ m R s) (h : ∀ a o s', (LstO o #[] ∧ o.dict = none) → St c φ m ((a, o) :: R) s' → Q (.ref a) s') : wpAny (model PG w) A (newList []) Q NoE s :=
  wpAny_newObj_type (h _ _ _ ⟨⟨rfl, _, rfl⟩, rfl⟩ (H.push _ s.toks))
theorem r_bound {d : Addr} {o : Obj} {its : Array Value} {expr : Bool} {Q : Value → Shared → Prop} (H : St c φ m ((d, o) :: R) s) (ho : LstO o its ∧ o.dict = none) (h : ∀ b s', St c φ m ((b, bnd d) :: (d, o) :: R) s' → Q (.ref b) s') :
    wpAny (model PG w) A (getAttr (.ref d) (Str.ofString "append") expr) Q NoE s := by
  obtain ⟨⟨hc, n, hd⟩, hn⟩ := ho
  exact getAttr_append (H.get 0 rfl) hc hn hd fun k' => h _ _ (H.push (bnd d) k')
theorem r_write {b d : Addr} {e : Expr} {rest : List Expr} {env : Env} {pos : Pos} {Q : Value → Shared → Prop} (_H : St c φ m R s) (hb : φ b = some (bnd d)) (he : starEach (e :: rest) env = (false, eval e env) :: starEach rest env) (hp : (backTo pos (starEach rest env)).any (·.1) = false)
    (h : wpAny (model PG w) A (spliced (backTo pos (starEach (e :: rest) env))) (fun vs s₁ => Alive c φ s₁ ∧ wpAny (model PG w) A (call (.ref b) vs) Q NoE s₁) NoE s) :
    wpAny (model PG w) A (callWith pos (.ref b) [] (backTo pos (starEach (e :: rest) env)) []) Q NoE s :=
  callWith_bnd (d := d) (wpAny_mono h (fun _ _ ⟨⟨_, _, H'⟩, z⟩ => ⟨H'.fz _ _ hb, z⟩) fun _ _ z => z) he hp
theorem r_wcall {b d : Addr} {o : Obj} {its : Array Value} {x : Value} {Q : Value → Shared → Prop} (H : St c φ m ((d, o) :: R) s) (hb : φ b = some (bnd d)) (ho : LstO o its) (hz : its.size ≤ 16777216)
    (h : ∀ o' s', LstO o' (its.push x) → St c φ m ((d, o') :: R) s' → Q .none s') : wpAny (model PG w) A (call (.ref b) [x]) Q NoE s := by
  refine call_bnd (H.fz _ _ hb) ⟨o, H.get 0 rfl, ho⟩ (Nat.le_trans hz (by decide : 16777216 ≤ sizeLine)) fun h' hl hs => ?_
  obtain ⟨o', ho', hl'⟩ := hl
  exact h o' _ hl' (H.upd 0 rfl hs ho' s.toks)
end
section
variable {K : Frag} {P : Addr} {w : World} {A : Around} {c : Cx} {φ : Fz} {m : List (Str × Value)} {R : List (Addr × Obj)} {s : Shared} {env : Env}
/-- an expression gives a bool and keeps the state -/
structure BE (w : World) (A : Around) (c : Cx) (φ : Fz) (m : List (Str × Value)) (R : List (Addr × Obj)) (env : Env) (e : Expr) (b : Bool) : Prop where
  go : ∀ {s : Shared} {Q : Value → Shared → Prop}, St c φ m R s → (∀ s', St c φ m R s' → Q (.bool b) s') → wpAny (model PG w) A (eval e env) Q NoE s
theorem BE.one {op : BoolOp} {e : Expr} {pos : Pos} {b : Bool} (h : BE w A c φ m R env e b) : BE w A c φ m R env (.BoolOp op [e] pos) b := ⟨fun H k => BoolOp_one (h.go H k)⟩
theorem BE.and {e e2 : Expr} {rest : List Expr} {pos : Pos} {b b' : Bool} (h : BE w A c φ m R env e b) (h' : BE w A c φ m R env (.BoolOp .And (e2 :: rest) pos) b') : BE w A c φ m R env (.BoolOp .And (e :: e2 :: rest) pos) (b && b') := ⟨fun H k => by
  refine BoolOp_and (h.go H fun s' H' => wpAny_truthy_bool ?_)
  cases b with
  | true => exact h'.go H' k
  | false => exact k _ H'⟩
theorem BE.or {e e2 : Expr} {rest : List Expr} {pos : Pos} {b b' : Bool} (h : BE w A c φ m R env e b) (h' : BE w A c φ m R env (.BoolOp .Or (e2 :: rest) pos) b') : BE w A c φ m R env (.BoolOp .Or (e :: e2 :: rest) pos) (b || b') := ⟨fun H k => by
  refine BoolOp_or (h.go H fun s' H' => wpAny_truthy_bool ?_)
  cases b with
  | true => exact k _ H'
  | false => exact h'.go H' k⟩
theorem notmem_led {c : Cx} {a b : Addr} {o o' : Obj} {R : List (Addr × Obj)} (H : St c φ m ((a, o) :: R) s) (h : (b, o') ∈ R) : b ≠ a := fun e => by
  have nd := List.nodup_cons.mp (by have := H.ord; rwa [List.map_cons] at this)
  exact nd.1 (List.mem_map.mpr ⟨_, h, e⟩)
/-- (a, b) in ((..), (..), (..)) -/
theorem r_in_pairs {t a1 a2 a3 x : Addr} {o o1 o2 o3 ox : Obj} {va : Value} {b u1 v1 u2 v2 u3 v3 : Str} {tb t1 t2 t3 t4 t5 t6 : Tok} {Q : Value → Shared → Prop}
    (H : St c φ m ((t, o) :: (a3, o3) :: (a2, o2) :: (a1, o1) :: (x, ox) :: R) s) (ho : TupO o #[.ref a1, .ref a2, .ref a3]) (h1 : TupO o1 #[.str u1 t1, .str v1 t2]) (h2 : TupO o2 #[.str u2 t3, .str v2 t4]) (h3 : TupO o3 #[.str u3 t5, .str v3 t6])
    (hx : TupO ox #[va, .str b tb]) (hv : StrOrNone va) (hu : A.units + 8 < cLine)
    (h : St c φ m R s → Q (.bool ((keyIs va (.str u1 0) && (v1 == b)) || ((keyIs va (.str u2 0) && (v2 == b)) || (keyIs va (.str u3 0) && (v3 == b))))) s) : wpAny (model PG w) A (compareOp .In (.ref x) (.ref t)) Q NoE s := by
  have I1 : s.heap.IsTuple a1 _ := H.isTup (.tail _ (.tail _ (.tail _ (.head _)))) h1
  have I2 : s.heap.IsTuple a2 _ := H.isTup (.tail _ (.tail _ (.head _))) h2
  have I3 : s.heap.IsTuple a3 _ := H.isTup (.tail _ (.head _)) h3
  have Ix : s.heap.IsTuple x _ := H.isTup (.tail _ (.tail _ (.tail _ (.tail _ (.head _))))) hx
  have n3 : x ≠ a3 := notmem_led (H.tail 1) (o' := ox) (.tail _ (.tail _ (.head _)))
  have n2 : x ≠ a2 := notmem_led (H.tail 2) (o' := ox) (.tail _ (.head _))
  have n1 : x ≠ a1 := notmem_led (H.tail 3) (o' := ox) (.head _)
  have m12 : a1 ≠ a2 := notmem_led (H.tail 2) (o' := o1) (.head _)
  have m13 : a1 ≠ a3 := notmem_led (H.tail 1) (o' := o1) (.tail _ (.head _))
  have m23 : a2 ≠ a3 := notmem_led (H.tail 1) (o' := o2) (.head _)
  have kk : ∀ (u : Str) (t : Tok), keyIs va (.str u t) = keyIs va (.str u 0) := by intro u t; cases va <;> rfl
  have one : ∀ {a : Addr} {u v : Str} {t t' : Tok}, s.heap.IsTuple a #[.str u t, .str v t'] → x ≠ a → SeqAt.EqAt A.in1 s (.ref a) (.ref x) (keyIs va (.str u 0) && (v == b)) := by
    intro a u v t t' Ia ne
    have := SeqAt.EqAt.of_refs (A := A.in1) (s := s) (Ne.symm ne) (SeqAt.RcAt.tuples (e := fun j => match j with | 0 => keyIs va (.str u 0) | _ => v == b) Ia Ix (show A.units + 1 < cLine by lia) (fun j h1 h2 => ?_))
    · have e : ((List.range (min (#[Value.str u t, .str v t']).size (#[va, Value.str b tb]).size)).all (fun j => match j with | 0 => keyIs va (.str u 0) | _ => v == b) && (#[Value.str u t, .str v t']).size == (#[va, Value.str b tb]).size) = (keyIs va (.str u 0) && (v == b)) := by
        simp [List.range, List.range.loop]
      rw [e] at this; exact this
    · match j, h1, h2 with
      | 0, _, _ => show SeqAt.EqAt _ _ (.str u t) va (keyIs va (.str u 0)); rw [← kk u t]; exact eqAt_key ⟨u, t, rfl⟩ hv
      | 1, _, _ => exact SeqAt.EqAt.str_str v t' b tb
      | j + 2, h1, _ => simp at h1; lia
  refine SeqAt.in_tupleAt (fun y => if y = .ref a1 then (keyIs va (.str u1 0) && (v1 == b)) else if y = .ref a2 then (keyIs va (.str u2 0) && (v2 == b)) else (keyIs va (.str u3 0) && (v3 == b))) (H.isTup (.head _) ho) (fun y hy => ?_) ?_
  · have hy : y = .ref a1 ∨ y = .ref a2 ∨ y = .ref a3 := by simpa using hy
    rcases hy with rfl | rfl | rfl
    · rw [if_pos rfl]; exact one I1 n1
    · rw [if_neg (by simpa using Ne.symm m12), if_pos rfl]; exact one I2 n2
    · rw [if_neg (by simpa using Ne.symm m13), if_neg (by simpa using Ne.symm m23)]; exact one I3 n3
  · have e : (#[Value.ref a1, .ref a2, .ref a3].any fun y => if y = .ref a1 then (keyIs va (.str u1 0) && (v1 == b)) else if y = .ref a2 then (keyIs va (.str u2 0) && (v2 == b)) else (keyIs va (.str u3 0) && (v3 == b))) = ((keyIs va (.str u1 0) && (v1 == b)) || ((keyIs va (.str u2 0) && (v2 == b)) || (keyIs va (.str u3 0) && (v3 == b)))) := by
      simp only [List.any_toArray, List.any_cons, List.any_nil, if_true, Bool.or_false]
      rw [if_neg (show ¬ (Value.ref a2 = .ref a1) by simpa using Ne.symm m12), if_neg (show ¬ (Value.ref a3 = .ref a1) by simpa using Ne.symm m13), if_neg (show ¬ (Value.ref a3 = .ref a2) by simpa using Ne.symm m23)]
    rw [e]
    exact h (H.tail 5)
end
open PyProof.V PyProof.Rows in
section
theorem forIn_gather17 (f : (Option (Sem Value) × Sem Value) → (Option Addr × List (Sem Value × Sem Value)) → Sem (ForInStep (Option Addr × List (Sem Value × Sem Value))))
    (hf : ∀ (p : Sem Value × Sem Value) (run : List (Sem Value × Sem Value)), run.length + 1 < 17 → f (some p.1, p.2) (none, run) = pure (.yield (none, run ++ [p])))
    (hl : ∀ (p : Sem Value × Sem Value) (run : List (Sem Value × Sem Value)), run.length + 1 = 17 → f (some p.1, p.2) (none, run) = (do let d ← subDict (run ++ [p]); pure (.yield (some d, [])))) :
    ∀ (items run : List (Sem Value × Sem Value)), items ≠ [] → run.length + items.length = 17 → forIn (items.map fun p => (some p.1, p.2)) ((none : Option Addr), run) f = (do let d ← subDict (run ++ items); pure (some d, []))
  | [], run, h, _ => absurd rfl h
  | [p], run, _, h => by
    rw [List.map_cons, List.forIn_cons, hl p run (by simpa using h)]
    simp
  | p :: q :: rest, run, _, h => by
    rw [List.map_cons, List.forIn_cons, hf p run (by simp at h; lia), pure_bind]
    have := forIn_gather17 f hf hl (q :: rest) (run ++ [p]) (by simp) (by simp at h ⊢; lia)
    simpa using this
theorem dictDisplay17 (pairs : List (Sem Value × Sem Value)) (hlen : pairs.length = 17) :
    dictDisplay (pairs.map fun p => (some p.1, p.2)) = (do let d ← subDict pairs; pure (.ref d)) := by
  have h0 : pairs ≠ [] := fun e => by rw [e] at hlen; cases hlen
  unfold dictDisplay
  dsimp only
  rw [forIn_gather17 _ (fun p run h => by
    have hne : ((run ++ [(p.1, p.2)]).length == 17) = false := by simp; lia
    simp only [hne, Bool.false_eq_true, if_false]) (fun p run h => by
    have he : ((run ++ [(p.1, p.2)]).length == 17) = true := by simp; lia
    have hne : (run ++ [(p.1, p.2)]).isEmpty = false := by simp
    simp only [he, hne, Bool.false_eq_true, if_true, if_false]
    simp) pairs [] h0 (by simpa using hlen)]
  simp
variable {prog : Program} {w : World} {A : Around} {E : Value → Shared → Prop} {env : Env}
def strPairsOk : List (PyData × PyData) → Bool
  | (.str _, _) :: r => strPairsOk r
  | [] => true
  | _ => false
theorem store_lits {pos : Pos} {d : Addr} : ∀ (keys : List (Option Expr)) (values : List Expr) (D D0 : List (PyData × PyData)) (kvs : List (Str × Value)) (s : Shared) (Q : PUnit → Shared → Prop), litPairs keys values = some D → strPairsOk D = true → kvs.length + D.length ≤ 64 →
    s.heap.DictOf (strKind prog w) d kvs → FlatPairs PyData.str kvs D0 →
    (∀ h' kvs' tk, h'.DictOf (strKind prog w) d kvs' → FlatPairs PyData.str kvs' (D.foldl (fun a p => putD p.1 p.2 a) D0) → Heap.SameBut d s.heap h' → Q ⟨⟩ { s with heap := h', toks := tk }) →
    wpAny (model prog w) A (forIn (pairTrees keys values env pos) PUnit.unit (fun x _ => do let kv ← x.1; let vv ← holding [kv] x.2; holding [kv, vv] (dictSet d kv vv); pure (ForInStep.yield PUnit.unit))) Q E s
  | [], [], D, D0, kvs, s, Q, hD, _, _, hd, hf, h => by
    cases hD
    exact wpAny_pure (h _ _ s.toks hd hf (Heap.SameBut.refl _ _))
  | [], _ :: _, _, _, _, _, _, hD, _, _, _, _, _ => by simp [litPairs] at hD
  | none :: _, _, _, _, _, _, _, hD, _, _, _, _, _ => by simp [litPairs] at hD
  | some _ :: _, [], _, _, _, _, _, hD, _, _, _, _, _ => by simp [litPairs] at hD
  | some k :: ks, v :: vs, D, D0, kvs, s, Q, hD, hok, hz, hd, hf, h => by
    simp only [litPairs, Option.bind_eq_bind, Option.pure_def] at hD
    cases hk : tabLit k with
    | none => simp [hk] at hD
    | some dk =>
      cases hv : tabLit v with
      | none => simp [hk, hv] at hD
      | some dv =>
        cases hr : litPairs ks vs with
        | none => simp [hk, hv, hr] at hD
        | some r =>
          simp only [hk, hv, hr, Option.bind_some, Option.some.injEq] at hD
          subst hD
          show wpAny _ _ (forIn ((eval k env, (do let x ← eval v env; standAt pos; pure x)) :: pairTrees ks vs env pos) _ _) _ _ _
          rw [List.forIn_cons]
          have hrok : ∃ x, dk = .str x ∧ strPairsOk r = true := by
            cases dk with
            | str x => exact ⟨x, rfl, hok⟩
            | _ => simp [strPairsOk] at hok
          obtain ⟨x, rfl, hok'⟩ := hrok
          refine wpAny_bind (wpAny_bind (eval_lit hk fun kv tk fk => wpAny_bind (wpAny_holding (wpAny_bind (eval_lit hv fun vv tk' fv => wpAny_bind (wpAny_standAt (wpAny_pure ?_)))))))
          obtain ⟨t, rfl⟩ := fk.str_inv
          refine wpAny_bind (wpAny_holding (wpAny_dictSet_pairs (knd := strKind prog w) (hsz := by rw [sizeLine_eq]; lia) (strKind_is _ _ _ _) hd fun h1 hd1 hs1 => wpAny_pure ?_))
          refine store_lits ks vs r _ _ _ Q hr hok' ?_ hd1 (hf.stored same_str x fv) fun h' kvs' tk hd' hf' hs' => h h' kvs' tk hd' hf' (hs1.trans hs')
          have := stored_length_le kvs x vv
          simp only [List.length_cons] at hz
          lia
theorem Dict_lits17 {s : Shared} {keys : List (Option Expr)} {values : List Expr} {pos : Pos} {D : List (PyData × PyData)} {Q : Value → Shared → Prop} (hD : litPairs keys values = some D) (hok : strPairsOk D = true) (hz : D.length ≤ 64)
    (hall : keys.all (·.isSome) = true) (hl : keys.length = values.length) (hlen : keys.length = 17)
    (h : ∀ o h₁ tk kvs, h₁.get? s.heap.objs.size = some o → o.IsDictOf (strKind prog w) kvs → FlatPairs PyData.str kvs (D.foldl (fun a p => putD p.1 p.2 a) []) → Heap.SameBut s.heap.objs.size (s.heap.push { cls := .type "dict", data := .dict #[] }) h₁ → Q (.ref s.heap.objs.size) { s with heap := h₁, toks := tk }) :
    wpAny (model prog w) A (eval (.Dict keys values pos) env) Q E s := by
  have hn := pairTrees_length keys values env pos hall hl
  rw [arm_eval_Dict, zip_pairTrees keys values env pos hall hl, dictDisplay17 _ (by rw [hn, hlen])]
  refine wpAny_bind (wpAny_standAt (wpAny_bind ?_))
  unfold subDict
  refine wpAny_bind (wpAny_alloc ?_)
  refine wpAny_bind (wpAny_holding ?_)
  rw [if_neg (by rw [hn, hlen]; decide)]
  refine wpAny_bind (wpAny_rule ?_)
  refine wpAny_bind ?_
  refine store_lits keys values D [] [] _ _ hD hok (by simpa using hz) (Heap.DictOf.new _) .nil fun h' kvs' tk hd' hf' hs' => wpAny_pure (wpAny_pure ?_)
  obtain ⟨o, ho, hd⟩ := Heap.dictOf_iff.mp hd'
  exact wpAny_pure (h o h' tk kvs' ho hd hf' hs')
end
section
variable {K : Frag} {P : Addr} {w : World} {A : Around} {c : Cx} {φ : Fz} {m : List (Str × Value)} {R : List (Addr × Obj)} {s s' : Shared} {env : Env}
/-- an object that is newer than the state H goes onto the ledger -/
theorem St.adopt (H : St c φ m R s) (H' : St c φ m R s') {a : Addr} {o : Obj} (ha : s.heap.get? a = none) (hg : c.g0.objs.size ≤ a) (ho : s'.heap.get? a = some o) : St c φ m ((a, o) :: R) s' := by
  refine ⟨H'.ns, H'.old, H'.top, H'.fz, fun p hp => ?_, ?_, H'.Lφ, H'.Pφ, H'.Lg, H'.L0, H'.Plt, H'.cin, H'.os, H'.bare, H'.tab⟩
  · rcases List.mem_cons.mp hp with rfl | hp
    · refine ⟨ho, ?_, fun e => ?_, hg⟩
      · cases q : φ a with
        | none => rfl
        | some o' => have := H.fz _ _ q; rw [ha] at this; cases this
      · have e : a = c.L := e
        obtain ⟨x, _, _, hx, _⟩ := H.ns
        rw [e, hx] at ha; cases ha
    · exact H'.led p hp
  · rw [List.map_cons]
    refine List.nodup_cons.mpr ⟨fun hm => ?_, H'.ord⟩
    obtain ⟨p, hp, e⟩ := List.mem_map.mp hm
    have e : p.1 = a := e
    have := (H.led p hp).1
    rw [e, ha] at this; cases this
theorem St.noMod (_H : St c φ m R s) (G : Gd K c.g0 P) {a : Addr} (ha : c.g0.objs.size ≤ a) : (a == sysModules) = false := by
  obtain ⟨p, loose, mg, mb, T⟩ := G.T
  have h1 : sysModules < c.g0.objs.size := modules_low T.nolimit
  exact beq_eq_false_iff_ne.mpr fun e => absurd h1 (Nat.not_lt.mpr (e ▸ ha))
open PyProof.V PyProof.Rows in
theorem r_dict17 {keys : List (Option Expr)} {values : List Expr} {pos : Pos} {D D' : List (PyData × PyData)} {Q : Value → Shared → Prop} (H : St c φ m R s) (hD : litPairs keys values = some D) (hok : strPairsOk D = true) (hz : D.length ≤ 64)
    (hall : keys.all (·.isSome) = true) (hl : keys.length = values.length) (hlen : keys.length = 17) (hD' : D.foldl (fun a p => putD p.1 p.2 a) [] = D')
    (h : ∀ a o s', (∃ kvs, o.IsDictOf (strKind PG w) kvs ∧ FlatPairs PyData.str kvs D') → St c φ m ((a, o) :: R) s' → Q (.ref a) s') : wpAny (model PG w) A (eval (.Dict keys values pos) env) Q NoE s := by
  subst hD'
  refine Dict_lits17 hD hok hz hall hl hlen fun o h₁ tk kvs ho hd hf hs => ?_
  have H1 := H.push { cls := .type "dict", data := .dict #[] } s.toks
  exact h _ o _ ⟨kvs, hd, hf⟩ (H1.upd 0 rfl hs ho tk)
end
inductive All2 {α β : Type} (q : α → β → Prop) : List α → List β → Prop
  | nil : All2 q [] []
  | cons {a : α} {b : β} {l : List α} {r : List β} : q a b → All2 q l r → All2 q (a :: l) (b :: r)
namespace All2
variable {α β : Type} {q q' : α → β → Prop}
theorem length : ∀ {l : List α} {r : List β}, All2 q l r → l.length = r.length
  | _, _, .nil => rfl
  | _, _, .cons _ t => by rw [List.length_cons, List.length_cons, t.length]
theorem mono (h : ∀ a b, q a b → q' a b) : ∀ {l : List α} {r : List β}, All2 q l r → All2 q' l r
  | _, _, .nil => .nil
  | _, _, .cons x t => .cons (h _ _ x) (t.mono h)
theorem append : ∀ {l l' : List α} {r r' : List β}, All2 q l r → All2 q l' r' → All2 q (l ++ l') (r ++ r')
  | _, _, _, _, .nil, y => y
  | _, _, _, _, .cons x t, y => .cons x (t.append y)
theorem snoc {l : List α} {r : List β} {a : α} {b : β} (h : All2 q l r) (x : q a b) : All2 q (l ++ [a]) (r ++ [b]) := h.append (.cons x .nil)
theorem get : ∀ {l : List α} {r : List β}, All2 q l r → ∀ i (h1 : i < l.length) (h2 : i < r.length), q l[i] r[i]
  | _, _, .cons x _, 0, _, _ => x
  | _, _, .cons _ t, i + 1, h1, h2 => t.get i (by simpa using h1) (by simpa using h2)
theorem take : ∀ {l : List α} {r : List β}, All2 q l r → ∀ n, All2 q (l.take n) (r.take n)
  | _, _, .nil, n => by simp; exact .nil
  | _, _, .cons x t, 0 => .nil
  | _, _, .cons x t, n + 1 => .cons x (t.take n)
theorem drop : ∀ {l : List α} {r : List β}, All2 q l r → ∀ n, All2 q (l.drop n) (r.drop n)
  | _, _, .nil, n => by simp; exact .nil
  | _, _, .cons x t, 0 => .cons x t
  | _, _, .cons x t, n + 1 => t.drop n
end All2
/-- a list of at most k pieces whose join is T -/
def Ck (o : Obj) (k : Nat) (T : List Nat) : Prop := ∃ its ps, LstO o its ∧ Txts its.toList ps ∧ ps.flatten = T ∧ its.size ≤ k
theorem Ck.le {o : Obj} {k k' : Nat} {T : List Nat} (h : Ck o k T) (hk : k ≤ k') : Ck o k' T := let ⟨its, ps, a, b, e, z⟩ := h; ⟨its, ps, a, b, e, Nat.le_trans z hk⟩
theorem Ck.new {o : Obj} (h : LstO o #[]) : Ck o 0 [] := ⟨#[], [], h, .nil, rfl, Nat.le_refl _⟩
theorem Ck.cast {o : Obj} {k : Nat} {T T' : List Nat} (h : Ck o k T) (e : T = T') : Ck o k T' := e ▸ h
/-- what is known of the fresh objects -/
structure Kn (c : Cx) (κ φ : Fz) : Prop where
  le : Fz.le κ φ
  new : ∀ b o, κ b = some o → c.s0.heap.get? b = none
structure Frs (h0 : Heap) (ψ : Fz) (h : Heap) : Prop where
  at_ : ∀ b o, ψ b = some o → h.get? b = some o
  new : ∀ b o, ψ b = some o → h0.get? b = none
def Fz.nil : Fz := fun _ => none
section
variable {K : Frag} {P : Addr} {w : World} {A : Around} {c : Cx} {φ κ ψ : Fz} {m : List (Str × Value)} {R N : List (Addr × Obj)} {s s' : Shared} {env : Env}
theorem Kn.nil : Kn c Fz.nil φ := ⟨fun _ _ e => (nomatch e), fun _ _ e => (nomatch e)⟩
theorem Kn.frs (h : Kn c κ φ) (H : St c φ m R s) : Frs c.s0.heap κ s.heap := ⟨fun b o e => H.fz b o (h.le b o e), h.new⟩
/-- what stands stood, or is new -/
theorem St.newL (H : St c φ m R s) (hD : c.D = []) {a : Addr} {o : Obj} (hp : (a, o) ∈ R) : c.s0.heap.get? a = none := by
  cases q : c.s0.heap.get? a with
  | none => rfl
  | some o' =>
    have L := H.led _ hp
    have := H.old a o' q (by rw [hD]; exact List.not_mem_nil) (fun e => absurd H.Plt (Nat.not_lt.mpr (e ▸ L.2.2.2)))
    rw [L.2.1] at this; cases this
theorem Kn.join {φ' : Fz} (h : Kn c κ φ) (le : Fz.le φ φ') (leψ : Fz.le ψ φ') (hψ : ∀ b o, ψ b = some o → c.s0.heap.get? b = none) : Kn c (κ.join ψ) φ' := by
  refine ⟨fun b o e => ?_, fun b o e => ?_⟩
  · unfold Fz.join at e
    cases q : κ b with
    | some o' => rw [q] at e; cases e; exact le _ _ (h.le _ _ q)
    | none => rw [q] at e; exact leψ _ _ e
  · unfold Fz.join at e
    cases q : κ b with
    | some o' => exact h.new b o' q
    | none => rw [q] at e; exact hψ b o e
/-- fresh objects of a call are frozen -/
theorem St.joinN (H : St c φ m R s) (H' : St c φ m (N ++ R) s') (k : Frs s.heap ψ s'.heap) (hN : ∀ p ∈ N, ψ p.1 = none) : St c (φ.join ψ) m (N ++ R) s' := by
  have nn : ∀ b o, s.heap.get? b = some o → ψ b = none := fun b o hb => by
    cases q : ψ b with
    | none => rfl
    | some o' => rw [k.new b o' q] at hb; cases hb
  refine ⟨H'.ns, fun b o e h1 h2 => Fz.le_left _ _ b o (H'.old b o e h1 h2), fun b o e => Fz.le_left _ _ b o (H'.top b o e), fun b o e => ?_, fun p hp => ⟨(H'.led p hp).1, ?_, (H'.led p hp).2.2⟩, H'.ord, ?_, ?_, H'.Lg, H'.L0, H'.Plt, H'.cin, H'.os, H'.bare, H'.tab⟩
  · unfold Fz.join at e
    cases q : φ b with
    | some o' => rw [q] at e; cases e; exact H'.fz b o q
    | none => rw [q] at e; exact k.at_ b o e
  · unfold Fz.join
    rw [(H'.led p hp).2.1]
    rcases List.mem_append.mp hp with hp | hp
    · exact hN p hp
    · exact nn _ _ (H.led p hp).1
  · obtain ⟨x, _, _, hx, _⟩ := H.ns
    unfold Fz.join; rw [H.Lφ]; exact nn _ _ hx
  · obtain ⟨ps, h1, h2⟩ := H.tab
    unfold Fz.join; rw [H.Pφ]; exact nn _ _ h2.2
theorem Frs.le_right {φ ψ : Fz} {h h' : Heap} (k : Frs h ψ h') (hf : ∀ b o, φ b = some o → h.get? b = some o) : Fz.le ψ (φ.join ψ) := fun b o e => by
  have : φ b = none := by
    cases q : φ b with
    | none => rfl
    | some o' => have := hf b o' q; rw [k.new b o e] at this; cases this
  simp [Fz.join, e, this]
end
/-- facts for reading the slot name of an object of C -/
structure GetF (K : Frag) (C : Addr) (name : Str) (p : Addr) (i : Nat) : Prop where
  hg : plainGet K C name = true
  hc : isClsIn K C = true
  ha : findIn K (.ref C) name = some (some (.ref p))
  hn : specialIn K (.ref p) "__get__" = some (some (.builtin "member_descriptor.__get__"))
  ht : takesIn K (.ref p) = some true
  hp : slotIn K p C = some i
def RN (d : Nat) : Nat := 2 * d + 4
def Zb (d : Nat) : Nat := 64 * 20 ^ d
section
variable {K : Frag} {P : Addr} {w : World} {A : Around} {c : Cx} {φ κ : Fz} {m : List (Str × Value)} {R : List (Addr × Obj)} {s : Shared} {x C dx p f b da : Addr} {o : Obj} {name : Str} {v : Value} {i k d : Nat} {T T0 : List Nat} {env : Env}
theorem r_slot {sl : Array (Option Value)} {expr : Bool} {Q : Value → Shared → Prop} (H : St c φ m R s) (G : Gd K c.g0 P) (hx : φ x = some (ins C dx sl)) (hdx : φ dx = some emptyDict) (F : GetF K C name p i) (hv : (sl[i]?).join = some v) (hh : handedIn v = true)
    (h : ∀ s', St c φ m R s' → Q v s') : wpAny (model PG w) A (getAttr (.ref x) name expr) Q NoE s :=
  r_getslot H G ⟨H.fz _ _ hx, rfl, rfl, H.fz _ _ hdx⟩ F.hg F.hc F.ha F.hn F.ht F.hp hv hh h
theorem r_wck {z : Str} {t : Tok} {Q : Value → Shared → Prop} (H : St c φ m ((da, o) :: R) s) (hb : φ b = some (bnd da)) (hk : Ck o k T0) (hz : k < 16777216)
    (h : ∀ o' s', Ck o' (k + 1) (T0 ++ z.cps.toList) → St c φ m ((da, o') :: R) s' → Q .none s') : wpAny (model PG w) A (call (.ref b) [.str z t]) Q NoE s := by
  obtain ⟨its, ps, h1, h2, rfl, h4⟩ := hk
  refine r_wcall H hb h1 (by lia) fun o' s' ho' H' => h o' s' ⟨_, ps ++ [z.cps.toList], ho', ?_, by simp, by simpa using h4⟩ H'
  rw [Array.toList_push]
  have := Txts.snoc (p := z.cps.toList) (t := t) h2
  rwa [← S_list] at this
/-- what a node's _serialize_to does -/
structure Wr (w : World) (g0 : Heap) (P : Addr) (κ : Fz) (d : Nat) (f x : Addr) (T : List Nat) : Prop where
  go : ∀ {A : Around} {s : Shared} {b da : Addr} {o : Obj} {k : Nat} {T0 : List Nat} {Q : Value → Shared → Prop}, Inv g0 P s → Rm A (RN d) → (∀ y o, κ y = some o → s.heap.get? y = some o ∧ y ≠ P ∧ y ≠ da) → s.heap.get? b = some (bnd da) → s.heap.get? da = some o → g0.objs.size ≤ da →
    Ck o k T0 → k + Zb d ≤ 16777216 → (∀ s' o', Pres P [da] s s' → Inv g0 P s' → s'.heap.get? da = some o' → Ck o' (k + Zb d) (T0 ++ T) → Q .none s') → wpAny (model PG w) A (call (.ref f) [.ref x, .ref b]) Q NoE s
theorem Wr.up {κ' : Fz} {g0 : Heap} (h : Wr w g0 P κ d f x T) (le : Fz.le κ κ') : Wr w g0 P κ' d f x T :=
  ⟨fun I r hκ => h.go I r fun y o e => hκ y o (le y o e)⟩
theorem s_wr {Q : Value → Shared → Prop} (N : Wr w c.g0 c.P κ d f x T) (H : St c φ m ((da, o) :: R) s) (le : Fz.le κ φ) (hb : φ b = some (bnd da)) (r : Rm A (RN d)) (hk : Ck o k T0) (hz : k + Zb d ≤ 16777216)
    (h : ∀ o' s', Ck o' (k + Zb d) (T0 ++ T) → St c φ m ((da, o') :: R) s' → Q .none s') : wpAny (model PG w) A (call (.ref f) [.ref x, .ref b]) Q NoE s := by
  have L := H.led _ (.head _)
  refine N.go H.inv r (fun y o' e => ⟨H.fz _ _ (le _ _ e), fun q => ?_, fun q => ?_⟩) (H.fz _ _ hb) L.1 L.2.2.2 hk hz fun s' o' pr I' ho' hk' => h o' s' hk' (H.call1 0 rfl pr I' ho')
  · have := le _ _ e; rw [q, H.Pφ] at this; cases this
  · have := le _ _ e; rw [q, L.2.1] at this; cases this
theorem Wr.intro {g0 : Heap} {name qual : Str} {params : Arguments} {body : List Stmt} {scope : Scope} {dV kV doc pm cdv ct oc : Value} {an od : Option Addr} {osl : Array (Option Value)}
    (G : Gd K g0 P) (ho : K.lookup f = some ⟨oc, od, .func (fnOf name qual params body scope dV kV doc pm an cdv ct), osl⟩) (hcd : codeIn K cdv qual = true)
    (hbind : ∀ s b, BindsTo s (fnOf name qual params body scope dV kV doc pm an cdv ct) ⟨[.ref x, .ref b], []⟩ [("self", .ref x), ("write", .ref b)])
    (body : ∀ {A : Around} {c : Cx} {φ : Fz} {s₁ : Shared} {b da : Addr} {o : Obj} {k : Nat} {T0 : List Nat} {Q : Value → Shared → Prop}, c.g0 = g0 → c.P = P → Fz.le κ φ → φ b = some (bnd da) → Ck o k T0 → k + Zb d ≤ 16777216 →
      St c φ [("write", .ref b), ("self", .ref x)] [(da, o)] s₁ → Rm (A.deeper (envOf qual scope c.L f cdv)) (2 * d + 3) → (∀ s' o' φ' m' k' T', St c φ' m' [(da, o')] s' → Ck o' k' T' → k' ≤ k + Zb d → T' = T0 ++ T → Q .none s') →
      wpAny (model PG w) (A.deeper (envOf qual scope c.L f cdv)) (execs body (envOf qual scope c.L f cdv)) (fun fl s' => Q (match fl with | .ret v => v | _ => .none) s') NoE s₁)
    (hloc : (([("self", .ref x), ("write", .ref 0)] : List (Str × Value)).all fun x => decide (scope.names.lookup x.1 = some .local)) = true) (hcell : (scope.names.all fun x => decide (x.2 ≠ .cell)) = true)
    (hco : scope.isCoroutine = false := by rfl) (hgen : scope.isGenerator = false := by rfl) (hk : scope.kind = .function := by rfl) : Wr w g0 P κ d f x T := by
  refine ⟨fun {A s b da o k T0 Q} I r hκ hb hda hg hck hz h => ?_⟩
  refine enter (binds := [("self", .ref x), ("write", .ref b)]) (m := [("write", .ref b), ("self", .ref x)]) (Ds := [da]) (n := 2 * d + 3) G I r [(da, o)] (by simpa using ⟨hda, hg⟩) (by simp) ho hcd (hbind s b) rfl rfl ?_ (by simpa using hloc) hcell hco hgen hk
  intro c φ s₁ e1 e2 e3 eD hφ H r'
  have hbd : b ≠ da := fun e => by
    rw [e, hda] at hb
    obtain ⟨its, _, hl, _⟩ := hck
    have := hl.1
    rw [Option.some.inj hb] at this
    exact absurd this (by simp [bnd])
  have hbP : b ≠ P := fun e => by
    obtain ⟨ps, _, h2⟩ := I.tab
    have := h2.2
    rw [← e, hb] at this
    have := congrArg Obj.cls (Option.some.inj this)
    simp [bnd] at this
  refine body e1 e2 (fun y o' e => (hφ y o').mpr ⟨(hκ y o' e).1, by simpa using (hκ y o' e).2.2, (hκ y o' e).2.1⟩) ((hφ _ _).mpr ⟨hb, by simpa using hbd, hbP⟩) hck hz H r' fun s' o' φ' m' k' T' H' hck' hk' hT' => ?_
  have pp := H'.done eD
  have ii := H'.inv
  rw [e2, e3] at pp
  rw [e1, e2] at ii
  exact h s' o' pp ii (H'.get 0 rfl) ((hT' ▸ hck').le hk')
end
section
open PySem.Builtin PySem.Builtin.Str
variable {w : World} {A : Around} {c : Cx} {φ : Fz} {m : List (Str × Value)} {R : List (Addr × Obj)} {s : Shared} {a : Addr} {o : Obj}
theorem r_starts2 {x p q : Str} {t t1 t2 : Tok} {Q : Value → Shared → Prop} (H : St c φ m ((a, o) :: R) s) (ho : TupO o #[.str p t1, .str q t2])
    (h : ∀ s', St c φ m R s' → Q (.bool (Txt.startswith x p || Txt.startswith x q)) s') : wpAny (model PG w) A (call (.builtin "str.startswith") [.str x t, .ref a]) Q NoE s := by
  have hg := H.get 0 rfl
  obtain ⟨hc, n, hd⟩ := ho
  have hT : s.TypeIs (.ref a) "tuple" := ⟨_, hg, hc⟩
  have hsub : isSubtype (.type "tuple") (.type "tuple") = pure true := by rw [isSubtype_type]; kernel_rfl
  refine wpAny_call_entry F.slot_str_startswith (typeIs_str _ _ _) F.entry_str_startswith ?_ (F.args_str_startswith_2 _ _)
  unfold Builtin.«str.startswith» affixEntry
  refine wpAny_bind (wpAny_of_eq (a := (.str x t, x, [.ref a])) (by first | rfl | kernel_rfl) ?_)
  dsimp only
  refine wpAny_bind (wpAny_of_eq (a := (0, x.length)) (searchRange_nil _) ?_)
  dsimp only
  refine wpAny_bind ?_
  unfold asStr?
  refine wpAny_bind (wpAny_load hg ?_)
  rw [hd]
  refine wpAny_pure ?_
  refine wpAny_bind (wpAny_isInstance hT hsub ?_)
  refine w_so rfl ?_
  refine wpAny_bind (wpAny_rule ?_)
  refine wpAny_bind ?_
  unfold seqItems?
  refine wpAny_bind (wpAny_load hg ?_)
  rw [hd]
  refine wpAny_pure ?_
  dsimp only
  rw [← Array.forIn_toList]
  show wpAny _ _ ((forIn [Value.str p t1, Value.str q t2] _ _) >>= _) _ _ _
  cases e1 : Txt.startswith x p with
  | true =>
    have e1' : (decide (0 + p.length ≤ x.length) && subAt x p 0) = true := e1
    simp only [List.forIn_cons, pure_bind, e1', if_true, bind_assoc]
    exact wpAny_bind (wpAny_pure (wpAny_pure ⟨_, rfl, by have := h _ (H.tail 1); rwa [e1] at this⟩))
  | false =>
    have e1' : (decide (0 + p.length ≤ x.length) && subAt x p 0) = false := e1
    cases e2 : Txt.startswith x q with
    | true =>
      have e2' : (decide (0 + q.length ≤ x.length) && subAt x q 0) = true := e2
      simp only [List.forIn_cons, pure_bind, e1', e2', if_true, bind_assoc, Bool.false_eq_true, if_false]
      exact wpAny_bind (wpAny_pure (wpAny_pure ⟨_, rfl, by have := h _ (H.tail 1); rwa [e1, e2] at this⟩))
    | false =>
      have e2' : (decide (0 + q.length ≤ x.length) && subAt x q 0) = false := e2
      simp only [List.forIn_cons, List.forIn_nil, pure_bind, e1', e2', if_true, bind_assoc, Bool.false_eq_true, if_false]
      exact wpAny_pure ⟨_, rfl, by have := h _ (H.tail 1); rwa [e1, e2] at this⟩
end
/-- what is read of a class by isinstance -/
structure CF (K : Frag) (C : Addr) : Prop where
  gt : plainGet K C "__class__" = true
  cl : isClsIn K C = true
  fd : findIn K (.ref C) "__class__" = some (some (.builtin "object.__class__"))
  sp : specialIn K (.builtin "object.__class__") "__get__" = some (some (.builtin "getset_descriptor.__get__"))
  tk : takesIn K (.builtin "object.__class__") = some true
  mr : mroIn K C (.type "object") = some true
/-- an object of D is no C -/
structure NI (K : Frag) (D C : Addr) : Prop where
  ne : D ≠ C
  cl : isClsIn K C = true
  ty : typeIn K (.ref C) = some (.type "type")
  sb : subIn K (.ref D) (.ref C) = some false
section
variable {K : Frag} {P : Addr} {w : World} {A : Around} {E : Value → Shared → Prop} {c : Cx} {φ : Fz} {m : List (Str × Value)} {R : List (Addr × Obj)} {s : Shared} {x C D dx : Addr} {ox od : Obj}
theorem cls_of_isCls (h : isClsIn K C = true) : ∃ c' d' cd sl, K.lookup C = some ⟨c', d', .cls cd, sl⟩ := by
  unfold isClsIn clsIn at h
  split at h
  · rename_i c' d' cd sl ho; exact ⟨_, _, _, _, ho⟩
  · cases h
theorem looks_isCls {M : Model} {h : Heap} (X : K.In h) (hc : isClsIn K C = true) : Looks M h (isType (.ref C)) true := by
  obtain ⟨_, _, _, _, ho⟩ := cls_of_isCls hc
  intro A' Q' E' s' k q
  unfold isType loadHead
  exact wpAny_bind (wpAny_loadPart (k _ _ (X _ _ ho)) (wpAny_pure q))
theorem ni_class {Q : Option Value → Shared → Prop} (F : CF K D) (X : K.In s.heap) (I : InstAt s.heap x ox D (some od)) (h : Q (some (.ref D)) { s with toks := s.toks + 1 }) : wpAny (model PG w) A (getAttr? (.ref x) "__class__") Q E s :=
  kin_open X I (plainGet_of F.gt).1 (kin_hooked (s := { s with toks := s.toks + 1 }) X I (findObj_data F.cl F.fd F.sp F.tk) (plainGet_of F.gt).2
    (wpAny_call (class_get (s := { s with toks := s.toks + 1 }) (ox := ox) (od := some od) X I F.mr (handed_on rfl h))))
theorem ni_call {Q : Value → Shared → Prop} (F : CF K D) (N : NI K D C) (X : K.In s.heap) (I : InstAt s.heap x ox D (some od)) (h : Q (.bool false) { s with toks := s.toks + 1 }) : wpAny (model PG w) A (call (.builtin "isinstance") [.ref x, .ref C]) Q E s := by
  refine call_isinstance_of ?_ (by intro q; cases q)
  have hsub : ∀ M, Looks M s.heap (isSubtype (.ref D) (.ref C)) false := fun M => looks_subIn X N.sb
  obtain ⟨hh, g, d, tt, os⟩ := s
  have LT := I.type (M := model PG w)
  have LI : Looks (model PG w) hh (isInstance (.ref x) (.ref C)) false := LT.andThen (hsub _)
  have LY : Looks (model PG w) hh (typeOf (.ref C)) (.type "type") := looks_typeIn X N.ty
  unfold Builtin.«isinstance.nested»
  refine wpAny_bind (LT.at ?_)
  refine w_not (beq_eq_false_iff_ne.mpr fun q => N.ne (Value.ref.inj q)) ?_
  refine wpAny_bind (LY.at ?_)
  rw [if_pos (by decide)]
  k_delta "plainIsInstance"
  refine wpAny_bind (wpAny_bind ((looks_isCls X N.cl).at ?_))
  refine w_not rfl ?_
  refine wpAny_bind (LI.at ?_)
  refine w_not rfl ?_
  refine wpAny_bind (ni_class F X I ?_)
  dsimp only
  refine wpAny_bind ((looks_isCls X F.cl).at ?_)
  refine w_not rfl ?_
  refine wpAny_bind (wpAny_rule ?_)
  refine (hsub _).at ?_
  exact wpAny_pure h
theorem r_isno {sl : Array (Option Value)} {Q : Value → Shared → Prop} (H : St c φ m R s) (G : Gd K c.g0 P) (hx : φ x = some (ins D dx sl)) (hdx : φ dx = some emptyDict) (F : CF K D) (N : NI K D C) (h : ∀ s', St c φ m R s' → Q (.bool false) s') :
    wpAny (model PG w) A (call (.builtin "isinstance") [.ref x, .ref C]) Q NoE s :=
  ni_call F N (H.kIn G) ⟨H.fz _ _ hx, rfl, rfl, H.fz _ _ hdx⟩ (h _ (H.toks _))
theorem r_isyes {sl : Array (Option Value)} {Q : Value → Shared → Prop} (H : St c φ m R s) (G : Gd K c.g0 P) (hx : φ x = some (ins C dx sl)) (hdx : φ dx = some emptyDict) (h : ∀ s', St c φ m R s' → Q (.bool true) s') :
    wpAny (model PG w) A (call (.builtin "isinstance") [.ref x, .ref C]) Q NoE s := by
  have I : InstAt s.heap x (ins C dx sl) C (some emptyDict) := ⟨H.fz _ _ hx, rfl, rfl, H.fz _ _ hdx⟩
  exact isi_call (t := .ref C) (H.kIn G) (fun M => I.type) (by simp [isIn]) (by intro q; cases q) (h _ H)
end
/-- a class of nodes -/
structure Cls (K : Frag) (C f : Addr) (ty : Str) : Prop where
  gt : plainGet K C "type" = true
  oc : ∃ oc cd, K.lookup C = some oc ∧ oc.data = .cls cd ∧ cd.hasDict = false
  at_ : ∃ tok, findIn K (.ref C) "type" = some (some (.str ty tok)) ∧ specialIn K (.str ty tok) "__get__" = some none
  gm : plainGet K C "_serialize_to" = true
  fm : findIn K (.ref C) "_serialize_to" = some (some (.ref f))
  isf : isFn K (.ref f) = true
  gs : plainGet K C "serialize" = true
  fs : findIn K (.ref C) "serialize" = some (some (.ref 76))
  isf2 : isFn K (.ref 76) = true
  kp : keepIn K (.ref f) = true
  kp2 : keepIn K (.ref 76) = true
  cf : CF K C
  n613 : C = 613 ∨ NI K C 613
  n117 : C = 117 ∨ NI K C 117
section
variable {K : Frag} {P : Addr} {w : World} {A : Around} {c : Cx} {φ : Fz} {m : List (Str × Value)} {R : List (Addr × Obj)} {s : Shared} {x C f dx : Addr} {ty : Str} {sl : Array (Option Value)}
theorem r_type {expr : Bool} {Q : Value → Shared → Prop} (H : St c φ m R s) (G : Gd K c.g0 P) (hx : φ x = some (ins C dx sl)) (hdx : φ dx = some emptyDict) (L : Cls K C f ty) (h : ∀ t s', St c φ m R s' → Q (.str ty t) s') : wpAny (model PG w) A (getAttr (.ref x) (Str.ofString "type") expr) Q NoE s := by
  obtain ⟨oc, cd, h1, h2, h3⟩ := L.oc
  obtain ⟨tok, h4, h5⟩ := L.at_
  exact r_getcls H G ⟨H.fz _ _ hx, rfl, rfl, H.fz _ _ hdx⟩ L.gt h1 h2 h3 h4 h5 rfl (by decide +kernel) (h tok)
theorem r_ser {pl : Sem Bool} {Q : Value × List Value → Shared → Prop} (H : St c φ m R s) (G : Gd K c.g0 P) (hx : φ x = some (ins C dx sl)) (hdx : φ dx = some emptyDict) (L : Cls K C f ty) (h : Q (.ref f, [.ref x]) s) : wpAny (model PG w) A (getMethod (.ref x) (Str.ofString "_serialize_to") pl) Q NoE s :=
  r_method H G ⟨H.fz _ _ hx, rfl, rfl, H.fz _ _ hdx⟩ L.gm L.fm L.isf (by kernel_rfl) h
theorem r_ser2 {pl : Sem Bool} {Q : Value × List Value → Shared → Prop} (H : St c φ m R s) (G : Gd K c.g0 P) (hx : φ x = some (ins C dx sl)) (hdx : φ dx = some emptyDict) (L : Cls K C f ty) (h : Q (.ref 76, [.ref x]) s) : wpAny (model PG w) A (getMethod (.ref x) (Str.ofString "serialize") pl) Q NoE s :=
  r_method H G ⟨H.fz _ _ hx, rfl, rfl, H.fz _ _ hdx⟩ L.gs L.fs L.isf2 (by kernel_rfl) h
theorem r_kcall {fv : Value} {first : List Value} {e : Expr} {rest : List Expr} {env : Env} {pos : Pos} {Q : Value → Shared → Prop} (H : St c φ m R s) (G : Gd K c.g0 P) (hk : keepIn K fv = true) (he : starEach (e :: rest) env = (false, eval e env) :: starEach rest env) (hp : (backTo pos (starEach rest env)).any (·.1) = false)
    (h : wpAny (model PG w) A (spliced (backTo pos (starEach (e :: rest) env))) (fun vs s₁ => Alive c φ s₁ ∧ wpAny (model PG w) A (call fv (first ++ vs)) Q NoE s₁) NoE s) :
    wpAny (model PG w) A (callWith pos fv first (backTo pos (starEach (e :: rest) env)) []) Q NoE s :=
  callWith_K (H.kIn G) hk (wpAny_mono h (fun _ _ ⟨⟨_, _, H'⟩, z⟩ => ⟨H'.kIn G, z⟩) fun _ _ z => z) he hp
theorem r_kcall0 {fv : Value} {first : List Value} {env : Env} {pos : Pos} {Q : Value → Shared → Prop} (H : St c φ m R s) (G : Gd K c.g0 P) (hk : keepIn K fv = true) (h : wpAny (model PG w) A (call fv (first ++ [])) Q NoE s) :
    wpAny (model PG w) A (callWith pos fv first (backTo pos (starEach [] env)) []) Q NoE s := callWith_K0 (H.kIn G) hk h
end
section
variable {K : Frag} {P : Addr} {w : World} {A : Around} {c : Cx} {φ : Fz} {m : List (Str × Value)} {R : List (Addr × Obj)} {s : Shared} {la : Addr} {lo : Obj} {its : Array Value}
theorem r_last {value slice : Expr} {i : Int} {t : Tok} {u : Value} {Q : Value → Shared → Prop} (H : St c φ m R s) (hl : φ la = some lo) (ho : LstO lo its) (hi : i = -1) (hz : its.size < 1152921504606846976) (hu : its.toList.getLast? = some u)
    (hs : subscripted slice false (.ref la) (.int i t) = operate [.ref la, .int i t] (getItem (.ref la) (.int i t))) (h : Q u s) : wpAny (model PG w) A (subscriptTail value slice (.ref la) (.int i t)) Q NoE s := by
  subst hi
  have hL := H.fzLst hl ho
  have hn : its.size ≠ 0 := fun e => by
    have : its.toList = [] := by rw [← List.length_eq_zero_iff]; simpa using e
    rw [this] at hu; cases hu
  refine tail_any hL.typeIs slot_list_getitem.lookup (wpAny_getItem_list_neg hL (by lia) (by lia) (by lia) ?_ h) hs
  rw [List.getLast?_eq_getElem?] at hu
  rw [show ((-1 : Int) + its.size).toNat = its.toList.length - 1 by simp; lia]
  simpa using hu
theorem r_truthy_list {Q : Bool → Shared → Prop} (H : St c φ m R s) (hl : φ la = some lo) (ho : LstO lo its) (hz : its.size < 1152921504606846976) (h : ∀ s', St c φ m R s' → Q (!its.isEmpty) s') : wpAny (model PG w) A (truthy (.ref la)) Q NoE s :=
  wpAny_truthy_list (H.fzLst hl ho) (by lia) (h _ (H.toks _))
theorem r_truthy_l {Q : Bool → Shared → Prop} {bb : Bool} (H : St c φ m R s) (hl : φ la = some lo) (ho : LstO lo its) (hz : its.size < 1152921504606846976) (e : (!its.isEmpty) = bb) (h : ∀ s', St c φ m R s' → Q bb s') : wpAny (model PG w) A (truthy (.ref la)) Q NoE s :=
  r_truthy_list H hl ho hz fun s' H' => e ▸ h s' H'
theorem r_neg {i : Int} {t : Tok} {Q : Value → Shared → Prop} (H : St c φ m R s) (h : ∀ t s', St c φ m R s' → Q (.int (-i) t) s') : wpAny (model PG w) A (unaryOp .USub (.int i t)) Q NoE s := neg_int (h _ _ (H.toks _))
end
section
variable {K : Frag} {P : Addr} {w : World} {A : Around} {c : Cx} {φ : Fz} {m : List (Str × Value)} {R : List (Addr × Obj)} {s : Shared} {la : Addr} {lo : Obj} {its : Array Value}
theorem r_boundF {d : Addr} {o : Obj} {its : Array Value} {expr : Bool} {Q : Value → Shared → Prop} (H : St c φ m ((d, o) :: R) s) (ho : LstO o its ∧ o.dict = none) (h : ∀ b φ' s', φ' b = some (bnd d) → Fz.le φ φ' → St c φ' m ((d, o) :: R) s' → Q (.ref b) s') :
    wpAny (model PG w) A (getAttr (.ref d) (Str.ofString "append") expr) Q NoE s := by
  refine r_bound H ho fun b s' H' => h b _ s' ?_ (Fz.le_left _ _) H'.freeze
  have L := (H'.led _ (.head _)).2.1
  have L : φ b = none := L
  unfold Fz.join
  rw [L]
  simp
theorem r_joinC {a : Addr} {o : Obj} {k : Nat} {T : List Nat} {t : Tok} {Q : Value → Shared → Prop} (H : St c φ m ((a, o) :: R) s) (hk : Ck o k T) (hz : T.length ≤ 16777216) (h : ∀ t s', St c φ m R s' → Q (.str (S T) t) s') :
    wpAny (model PG w) A (call (.builtin "str.join") [.str (Str.ofString "") t, .ref a]) Q NoE s := by
  obtain ⟨its, ps, h1, h2, rfl, h4⟩ := hk
  exact r_join (vs := its.toList) H (by simpa using h1) h2 hz h
theorem r_callG {o : Obj} {fd : FuncData} {f : Addr} {e : Expr} {rest : List Expr} {env : Env} {pos : Pos} {Q : Value → Shared → Prop} (_H : St c φ m R s) (G : Gd K c.g0 P) (ho : K.lookup f = some o) (hd : o.data = .func fd)
    (he : starEach (e :: rest) env = (false, eval e env) :: starEach rest env)
    (h : wpAny (model PG w) A (spliced (backTo pos (starEach (e :: rest) env))) (fun vs s₁ => AliveG c s₁ ∧ wpAny (model PG w) A (call (.ref f) vs) Q NoE s₁) NoE s) :
    wpAny (model PG w) A (callWith pos (.ref f) [] (backTo pos (starEach (e :: rest) env)) []) Q NoE s :=
  PyProof.Rows.callWith_def hd (wpAny_mono h (fun _ _ ⟨⟨_, _, _, H'⟩, z⟩ => ⟨H'.fn G ho, z⟩) fun _ _ z => z) he
theorem r_kcallG {fv : Value} {first : List Value} {e : Expr} {rest : List Expr} {env : Env} {pos : Pos} {Q : Value → Shared → Prop} (H : St c φ m R s) (G : Gd K c.g0 P) (hk : keepIn K fv = true) (he : starEach (e :: rest) env = (false, eval e env) :: starEach rest env) (hp : (backTo pos (starEach rest env)).any (·.1) = false)
    (h : wpAny (model PG w) A (spliced (backTo pos (starEach (e :: rest) env))) (fun vs s₁ => AliveG c s₁ ∧ wpAny (model PG w) A (call fv (first ++ vs)) Q NoE s₁) NoE s) :
    wpAny (model PG w) A (callWith pos fv first (backTo pos (starEach (e :: rest) env)) []) Q NoE s :=
  callWith_K (H.kIn G) hk (wpAny_mono h (fun _ _ ⟨⟨_, _, _, H'⟩, z⟩ => ⟨H'.kIn G, z⟩) fun _ _ z => z) he hp
end
/-- texts, each with a property -/
def StrsP (p : List Nat → Bool) (vs : List Value) : Prop := ∀ v ∈ vs, ∃ y t, v = .str (S y) t ∧ p y = true
theorem StrsP.nil {p : List Nat → Bool} : StrsP p [] := fun _ h => nomatch h
theorem StrsP.cons {p : List Nat → Bool} {z : Str} {t : Tok} {vs : List Value} (hz : p z.cps.toList = true) (h : StrsP p vs) : StrsP p (.str z t :: vs) := fun v hv => by
  rcases List.mem_cons.mp hv with rfl | hv
  · exact ⟨z.cps.toList, t, by rw [← S_list], hz⟩
  · exact h v hv
section
variable {K : Frag} {P : Addr} {w : World} {A : Around} {c : Cx} {φ φ' ψ : Fz} {m m' : List (Str × Value)} {R R' L : List (Addr × Obj)} {s s' : Shared} {a : Addr} {o : Obj} {its : Array Value}
/-- an item of a list that is let go -/
theorem r_ledget {n : Nat} {i : Int} {t : Tok} {v : Value} {value slice : Expr} {Q : Value → Shared → Prop} (H : St c φ m ((a, o) :: R) s) (ho : LstO o its) (hi : i = (n : Int)) (hz : n < 1000000) (hv : its[n]? = some v)
    (hs : subscripted slice false (.ref a) (.int i t) = operate [.ref a, .int i t] (getItem (.ref a) (.int i t))) (h : ∀ s', St c φ m R s' → Q v s') : wpAny (model PG w) A (subscriptTail value slice (.ref a) (.int i t)) Q NoE s := by
  subst hi
  have hL := H.isLst (.head _) ho
  exact tail_any hL.typeIs slot_list_getitem.lookup (wpAny_getItem_list hL (by lia) (by lia) (by simpa using hv) (h _ (H.tail 1))) hs
theorem r_pick {p : List Nat → Bool} {vs : List Value} {n : Nat} {i : Int} {t : Tok} {value slice : Expr} {Q : Value → Shared → Prop} (H : St c φ m ((a, o) :: R) s) (ho : LstO o vs.toArray) (hp : StrsP p vs) (hi : i = (n : Int)) (hn : n < vs.length) (hz : n < 1000000)
    (hs : subscripted slice false (.ref a) (.int i t) = operate [.ref a, .int i t] (getItem (.ref a) (.int i t))) (h : ∀ y t s', p y = true → St c φ m R s' → Q (.str (S y) t) s') : wpAny (model PG w) A (subscriptTail value slice (.ref a) (.int i t)) Q NoE s := by
  obtain ⟨y, t', e, hy⟩ := hp vs[n] (List.getElem_mem hn)
  exact r_ledget H ho hi hz (by simpa using (e ▸ List.getElem?_eq_getElem hn : vs[n]? = some (.str (S y) t'))) hs fun s' H' => h y t' s' hy H'
theorem Frs.led (H : St c φ m R s) (hD : c.D = []) (hL : ∀ p ∈ L, p ∈ R) : Frs c.s0.heap (fun b => L.lookup b) s.heap := by
  have key : ∀ b o, L.lookup b = some o → (b, o) ∈ R := fun b o e => by
    refine hL _ ?_
    clear hL
    induction L with
    | nil => cases e
    | cons p L ih =>
      rw [List.lookup_cons] at e
      split at e
      · rename_i q; cases e; rw [eq_of_beq q]; exact .head _
      · exact .tail _ (ih e)
  exact ⟨fun b o e => (H.led _ (key b o e)).1, fun b o e => H.newL hD (key b o e)⟩
/-- a call that gives a fresh list back -/
theorem St.adoptL (H : St c φ m R s) (p : Pres c.P [] s s') (I : Inv c.g0 c.P s') (k : Frs s.heap ψ s'.heap) (ha : s.heap.get? a = none) (hψ : ψ a = none) (hg : c.g0.objs.size ≤ a) (ho : s'.heap.get? a = some o) : St c (φ.join ψ) m ((a, o) :: R) s' ∧ Fz.le φ (φ.join ψ) ∧ Fz.le ψ (φ.join ψ) :=
  ⟨H.joinN (N := [(a, o)]) (H.adopt (H.call0 p I) ha hg ho) k (fun p hp => by rw [List.mem_singleton.mp hp]; exact hψ), Fz.le_left _ _, k.le_right fun b o e => H.fz b o e⟩
end
section
variable {K : Frag} {P : Addr} {w : World} {A : Around} {c : Cx} {φ φ' ψ : Fz} {m m' : List (Str × Value)} {R R' L : List (Addr × Obj)} {s s' : Shared} {a : Addr} {o : Obj} {its : Array Value}
theorem r_eq_nn {a b : Nat} {t u : Tok} {Q : Value → Shared → Prop} (h : Q (.bool (decide (a = b))) s) : wpAny (model PG w) A (compareOp .Eq (.int (a : Int) t) (.int (b : Int) u)) Q NoE s := r_eq_nat rfl h
end
/-- a list of small naturals, still to be read -/
def Tp (o : Obj) : Prop := o.cls = .type "list" ∧ o.dict = none ∧ ∃ its n, o.data = .seq its n ∧ (∀ v ∈ its.toList, ∃ (k : Nat) (t : Tok), v = .int k t) ∧ its.size ≤ 1000
section
open PySem.Builtin PySem.Builtin.List
variable {w : World} {A : Around} {c : Cx} {φ : Fz} {m : List (Str × Value)} {R : List (Addr × Obj)} {s : Shared} {a : Addr} {o : Obj}
theorem r_pop {t : Tok} {Q : Value → Shared → Prop} (i : Nat) (H : St c φ m R s) (hi : R[i]? = some (a, o)) (ho : Tp o) (hne : ∀ its n, o.data = .seq its n → its ≠ #[])
    (h : ∀ (k : Nat) t' o' s', Tp o' → St c φ m (R.set i (a, o')) s' → Q (.int k t') s') : wpAny (model PG w) A (call (.builtin "list.pop") [.ref a, .int 0 t]) Q NoE s := by
  obtain ⟨hc, hdn, its, n, hd, hall, hz⟩ := ho
  have hg := H.get i hi
  have hL : s.heap.IsList a its := ⟨o, hg, hc, n, hd⟩
  have h0 := hne its n hd
  have hpos : 0 < its.size := by
    rcases Nat.eq_zero_or_pos its.size with e | e
    · exact absurd (Array.size_eq_zero_iff.mp e) h0
    · exact e
  have hem : its.isEmpty = false := by
    cases q : its.isEmpty with
    | false => rfl
    | true => rw [Array.isEmpty_iff] at q; exact absurd q h0
  obtain ⟨k, t', e0⟩ := hall its[0] (by simp)
  refine wpAny_call_entry F.slot_list_pop hL.typeIs F.entry_list_pop ?_ (F.args_list_pop_2 _ _)
  unfold Builtin.«list.pop»
  refine wpAny_bind (wpAny_of_eq (a := (.ref a, [.int 0 t])) (by first | rfl | kernel_rfl) ?_)
  dsimp only
  refine wpAny_bind (wpAny_of_eq (a := (0 : Int)) rfl ?_)
  refine w_not (by decide) ?_
  refine wpAny_bind ?_
  unfold listItems seqItems?
  refine wpAny_bind (wpAny_bind (wpAny_load hg ?_))
  rw [hd]
  refine wpAny_pure (wpAny_pure ?_)
  refine w_not hem ?_
  have e1 : ((seqIndex? 0 its.size).bind fun k => its[k]?.map (k, ·)) = some (0, its[0]) := by
    have : seqIndex? 0 its.size = some 0 := by unfold seqIndex?; simp [hpos]
    rw [this, Option.bind_some, Array.getElem?_eq_getElem hpos]; rfl
  rw [e1]
  dsimp only
  obtain ⟨n', hd'⟩ := Obj.data_mapSeq hd (·.eraseIdxIfInBounds 0)
  refine wpAny_bind (m := updateSeq a (·.eraseIdxIfInBounds 0)) ?_
  refine wpAny_updateSeq hg hd ?_ (Nat.le_trans hz (by decide : 1000 ≤ sizeLine)) (by
    have : (its.eraseIdxIfInBounds 0).size ≤ its.size := by simp only [Array.eraseIdxIfInBounds]; split <;> simp
    have h2 : 1000 ≤ sizeLine := by decide
    lia)
  refine wpAny_pure ⟨_, rfl, ?_⟩
  rw [e0]
  refine h k t' (Obj.mapSeq (·.eraseIdxIfInBounds 0) o) _ ⟨(Obj.cls_mapSeq ..).trans hc, ?_, _, n', hd', ?_, ?_⟩ (H.upd i hi (Heap.SameBut.update ..) (Heap.get?_update_self _ hg (Obj.isFreed_of_seq hd')) s.toks)
  · obtain ⟨c, d, dt, sl⟩ := o
    subst hd
    exact hdn
  · intro v hv
    refine hall v ?_
    obtain ⟨l⟩ := its
    simp only [List.eraseIdxIfInBounds_toArray] at hv
    exact List.mem_of_mem_eraseIdx hv
  · have : (its.eraseIdxIfInBounds 0).size ≤ its.size := by simp only [Array.eraseIdxIfInBounds]; split <;> simp
    lia
theorem r_popm {pl : Sem Bool} {Q : Value × List Value → Shared → Prop} (i : Nat) (H : St c φ m R s) (hi : R[i]? = some (a, o)) (ho : Tp o) (h : Q (.builtin "list.pop", [.ref a]) s) : wpAny (model PG w) A (getMethod (.ref a) (Str.ofString "pop") pl) Q NoE s := by
  obtain ⟨hc, hdn, its, n, hd, _⟩ := ho
  have hg := H.get i hi
  exact PyProof.Rows.getMethod_list_of F.slot_list_pop F.type_list_pop ⟨o, hg, hc, n, hd⟩ ⟨o, hg, hdn⟩ h
theorem r_appm {its : Array Value} {pl : Sem Bool} {Q : Value × List Value → Shared → Prop} {i : Nat} (H : St c φ m R s) (hi : R[i]? = some (a, o)) (ho : LstO o its ∧ o.dict = none) (h : Q (.builtin "list.append", [.ref a]) s) : wpAny (model PG w) A (getMethod (.ref a) (Str.ofString "append") pl) Q NoE s := by
  obtain ⟨⟨hc, n, hd⟩, hdn⟩ := ho
  exact PySem.Calls.getMethod_list_append (H.get i hi) hc hdn h
theorem r_tape_truthy {Q : Bool → Shared → Prop} (i : Nat) (H : St c φ m R s) (hi : R[i]? = some (a, o)) (ho : Tp o) (h : ∀ b s', (b = true → ∀ its n, o.data = .seq its n → its ≠ #[]) → St c φ m R s' → Q b s') : wpAny (model PG w) A (truthy (.ref a)) Q NoE s := by
  obtain ⟨hc, hdn, its, n, hd, hall, hz⟩ := ho
  refine wpAny_truthy_list (items := its) ⟨o, H.get i hi, hc, n, hd⟩ (by lia) (h _ _ (fun e its' n' e' => ?_) (H.toks _))
  rw [hd] at e'
  cases e'
  intro q
  subst q
  simp at e
/-- x.append(v) for a list of the ledger -/
theorem r_app {its : Array Value} {x : Value} {Q : Value → Shared → Prop} (i : Nat) (H : St c φ m R s) (hi : R[i]? = some (a, o)) (ho : LstO o its ∧ o.dict = none) (hz : its.size ≤ 1000)
    (h : ∀ o' s', (LstO o' (its.push x) ∧ o'.dict = none) → St c φ m (R.set i (a, o')) s' → Q .none s') : wpAny (model PG w) A (call (.builtin "list.append") [.ref a, x]) Q NoE s := by
  obtain ⟨⟨hc, n, hd⟩, hdn⟩ := ho
  refine list_append_plainL (its := its) ⟨o, n, H.get i hi, hc, hdn, hd⟩ (fun h' hl hs => ?_) (Nat.le_trans hz (by decide : 1000 ≤ sizeLine))
  obtain ⟨o', n', ho', hc', hdn', hd'⟩ := hl
  exact h o' _ ⟨⟨hc', n', hd'⟩, hdn'⟩ (H.upd i hi hs ho' s.toks)
/-- what stands stood, or is new (D: objects of the ledger) -/
theorem St.wasD {s : Shared} (H : St c φ m R s) (hD : ∀ b ∈ c.D, ∃ o, (b, o) ∈ R) {b : Addr} (h : s.heap.get? b = none) : c.s0.heap.get? b = none := by
  cases q : c.s0.heap.get? b with
  | none => rfl
  | some o =>
    by_cases e : b = c.P
    · obtain ⟨ps, h1, h2⟩ := H.tab
      have := h2.2
      rw [← e, h] at this; cases this
    · by_cases hb : b ∈ c.D
      · obtain ⟨o', ho'⟩ := hD b hb
        have := (H.led _ ho').1
        have this : s.heap.get? b = some o' := this
        rw [h] at this; cases this
      · have := H.fz _ _ (H.old b o q hb e)
        rw [h] at this; cases this
theorem St.newLD {s : Shared} (H : St c φ m R s) {a : Addr} {o : Obj} (hp : (a, o) ∈ R) (ha : a ∉ c.D) : c.s0.heap.get? a = none := by
  cases q : c.s0.heap.get? a with
  | none => rfl
  | some o' =>
    have L := H.led _ hp
    have := H.old a o' q ha (fun e => absurd H.Plt (Nat.not_lt.mpr (e ▸ L.2.2.2)))
    rw [L.2.1] at this; cases this
end
section
variable {K : Frag} {P : Addr} {w : World} {A : Around} {c : Cx} {φ : Fz} {m : List (Str × Value)} {R : List (Addr × Obj)} {s : Shared} {p q r : Addr × Obj} {a : Addr} {o : Obj}
theorem r_pop3 {t : Tok} {Q : Value → Shared → Prop} (H : St c φ m (p :: q :: r :: (a, o) :: R) s) (ho : Tp o) (hne : ∀ its n, o.data = .seq its n → its ≠ #[])
    (h : ∀ (k : Nat) t' o' s', Tp o' → St c φ m (p :: q :: r :: (a, o') :: R) s' → Q (.int k t') s') : wpAny (model PG w) A (call (.builtin "list.pop") [.ref a, .int 0 t]) Q NoE s :=
  r_pop 3 H rfl ho hne h
theorem r_app2 {its : Array Value} {x : Value} {Q : Value → Shared → Prop} (H : St c φ m (p :: q :: (a, o) :: R) s) (ho : LstO o its ∧ o.dict = none) (hz : its.size ≤ 1000)
    (h : ∀ o' s', (LstO o' (its.push x) ∧ o'.dict = none) → St c φ m (p :: q :: (a, o') :: R) s' → Q .none s') : wpAny (model PG w) A (call (.builtin "list.append") [.ref a, x]) Q NoE s :=
  r_app 2 H rfl ho hz h
theorem r_app1 {its : Array Value} {x : Value} {Q : Value → Shared → Prop} (H : St c φ m (p :: (a, o) :: R) s) (ho : LstO o its ∧ o.dict = none) (hz : its.size ≤ 1000)
    (h : ∀ o' s', (LstO o' (its.push x) ∧ o'.dict = none) → St c φ m (p :: (a, o') :: R) s' → Q .none s') : wpAny (model PG w) A (call (.builtin "list.append") [.ref a, x]) Q NoE s :=
  r_app 1 H rfl ho hz h
end
theorem le_joinR {κ ψ φ : Fz} (h1 : Fz.le κ φ) (h2 : Fz.le ψ φ) : Fz.le ψ (κ.join ψ) := fun b o e => by
  unfold Fz.join
  cases q : κ b with
  | none => exact e
  | some o' => have := h1 _ _ q; rw [h2 _ _ e] at this; cases this; rfl
section
variable {K : Frag} {P : Addr} {w : World} {A : Around} {c : Cx} {φ κ ψ : Fz} {m : List (Str × Value)} {R R' : List (Addr × Obj)} {s s' : Shared} {p q r : Addr × Obj} {a b tp : Addr} {o otp : Obj}
theorem r_app3 {its : Array Value} {x : Value} {Q : Value → Shared → Prop} (H : St c φ m (p :: q :: r :: (a, o) :: R) s) (ho : LstO o its ∧ o.dict = none) (hz : its.size ≤ 1000)
    (h : ∀ o' s', (LstO o' (its.push x) ∧ o'.dict = none) → St c φ m (p :: q :: r :: (a, o') :: R) s' → Q .none s') : wpAny (model PG w) A (call (.builtin "list.append") [.ref a, x]) Q NoE s :=
  r_app 3 H rfl ho hz h
theorem r_ladd {its its2 : Array Value} {Q : Value → Shared → Prop} (H : St c φ m R s) (ha : s.heap.IsList a its) (hb : s.heap.IsList b its2) (hz : its.size + its2.size ≤ 1000000)
    (h : ∀ a' o' s', (LstO o' (its ++ its2) ∧ o'.dict = none) → St c φ m ((a', o') :: R) s' → Q (.ref a') s') : wpAny (model PG w) A (binaryOp .Add (.ref a) (.ref b)) Q NoE s := by
  obtain ⟨⟨cls, dd, data, sl⟩, ho, hc, n, hd⟩ := id ha
  obtain ⟨⟨cls2, dd2, data2, sl2⟩, ho2, hc2, n2, hd2⟩ := id hb
  simp only at hc hd hc2 hd2
  subst hc hd hc2 hd2
  refine concat_meets ⟨_, ho, rfl⟩ ⟨_, ho2, rfl⟩ noFill_list_add seq_list_add PySem.F.slot_list_add PySem.F.entry_list_add (PySem.F.args_list_add_2 _ _) (list_addW a b its its2 n n2 dd dd2 sl sl2 (Nat.le_trans hz (by decide : 1000000 ≤ sizeLine))) ⟨ho, ho2, ?_⟩
  exact h _ _ _ ⟨⟨rfl, _, rfl⟩, rfl⟩ (H.push _ s.toks)
/-- the first of the ledger is frozen -/
theorem fz1 (hκ : Kn c κ φ) (H : St c φ m (p :: R) s) (hp : p.1 ∉ c.D) : ∃ κ' φ', Kn c κ' φ' ∧ St c φ' m R s ∧ Fz.le κ κ' ∧ Fz.le φ φ' ∧ κ' p.1 = some p.2 := by
  obtain ⟨a, o⟩ := p
  have hφ : φ a = none := (H.led _ (.head _)).2.1
  have hk : κ a = none := by
    cases q : κ a with
    | none => rfl
    | some o' => rw [hκ.le _ _ q] at hφ; cases hφ
  refine ⟨κ.join fun b => if b = a then some o else none, _, hκ.join (Fz.le_left _ _) (fun b o' e => ?_) (fun b o' e => ?_), H.freeze, Fz.le_left _ _, Fz.le_left _ _, by unfold Fz.join; rw [hk]; simp⟩
  · by_cases hb : b = a
    · subst hb; unfold Fz.join; rw [hφ]; exact e
    · simp only [hb, if_false] at e; cases e
  · by_cases hb : b = a
    · subst hb; exact H.newLD (.head _) hp
    · simp only [hb, if_false] at e; cases e
theorem fz2 (hκ : Kn c κ φ) (H : St c φ m (p :: q :: R) s) (hp : p.1 ∉ c.D) (hq : q.1 ∉ c.D) : ∃ κ' φ', Kn c κ' φ' ∧ St c φ' m R s ∧ Fz.le κ κ' ∧ Fz.le φ φ' ∧ κ' p.1 = some p.2 ∧ κ' q.1 = some q.2 := by
  obtain ⟨κ1, φ1, k1, H1, l1, m1, e1⟩ := fz1 hκ H hp
  obtain ⟨κ2, φ2, k2, H2, l2, m2, e2⟩ := fz1 k1 H1 hq
  exact ⟨κ2, φ2, k2, H2, l1.trans l2, m1.trans m2, l2 _ _ e1, e2⟩
theorem fz3 (hκ : Kn c κ φ) (H : St c φ m (p :: q :: r :: R) s) (hp : p.1 ∉ c.D) (hq : q.1 ∉ c.D) (hr : r.1 ∉ c.D) : ∃ κ' φ', Kn c κ' φ' ∧ St c φ' m R s ∧ Fz.le κ κ' ∧ Fz.le φ φ' ∧ κ' p.1 = some p.2 ∧ κ' q.1 = some q.2 ∧ κ' r.1 = some r.2 := by
  obtain ⟨κ1, φ1, k1, H1, l1, m1, e1⟩ := fz1 hκ H hp
  obtain ⟨κ2, φ2, k2, H2, l2, m2, e2, e3⟩ := fz2 k1 H1 hq hr
  exact ⟨κ2, φ2, k2, H2, l1.trans l2, m1.trans m2, l2 _ _ e1, e2, e3⟩
/-- an object of the ledger that is not the tape -/
theorem St.notD (H : St c φ m R s) (eD : c.D = [tp]) {i : Nat} (hi : R[i]? = some p) {j : Nat} (hj : R[j]? = some (tp, otp)) (hij : i ≠ j) : p.1 ∉ c.D := by
  rw [eD, List.mem_singleton]
  intro e
  have nd := List.nodup_iff_pairwise_ne.mp H.ord
  obtain ⟨hl, hi⟩ := List.getElem?_eq_some_iff.mp hi
  obtain ⟨hl2, hj⟩ := List.getElem?_eq_some_iff.mp hj
  have h' := List.pairwise_iff_getElem.mp nd
  rcases Nat.lt_or_gt_of_ne hij with x | x
  · exact h' i j (by simpa using hl) (by simpa using hl2) x (by rw [List.getElem_map, List.getElem_map, hi, hj]; exact e)
  · exact h' j i (by simpa using hl2) (by simpa using hl) x (by rw [List.getElem_map, List.getElem_map, hi, hj]; exact e.symm)
theorem St.adoptR (H : St c φ m R s) (H' : St c φ m R' s') (hR : ∀ p ∈ R', p.1 ≠ a) (ha : s.heap.get? a = none) (hg : c.g0.objs.size ≤ a) (ho : s'.heap.get? a = some o) : St c φ m ((a, o) :: R') s' := by
  refine ⟨H'.ns, H'.old, H'.top, H'.fz, fun p hp => ?_, ?_, H'.Lφ, H'.Pφ, H'.Lg, H'.L0, H'.Plt, H'.cin, H'.os, H'.bare, H'.tab⟩
  · rcases List.mem_cons.mp hp with rfl | hp
    · refine ⟨ho, ?_, fun e => ?_, hg⟩
      · cases q : φ a with
        | none => rfl
        | some o' => have := H.fz _ _ q; rw [ha] at this; cases this
      · have e : a = c.L := e
        obtain ⟨x, _, _, hx, _⟩ := H.ns
        rw [e, hx] at ha; cases ha
    · exact H'.led p hp
  · rw [List.map_cons]
    refine List.nodup_cons.mpr ⟨fun hm => ?_, H'.ord⟩
    obtain ⟨p, hp, e⟩ := List.mem_map.mp hm
    exact hR p hp e
theorem mem_map_set {i : Nat} (hi : R[i]? = some (tp, otp)) {p : Addr × Obj} (hp : p ∈ R.set i (tp, o)) : ∃ q ∈ R, q.1 = p.1 := by
  rcases List.mem_or_eq_of_mem_set hp with hp | rfl
  · exact ⟨p, hp, rfl⟩
  · exact ⟨_, List.mem_of_getElem? hi, rfl⟩
/-- what is known of all that lies in the frame -/
theorem St.allK (H : St c φ m R s) : ∀ b o, (φ.join fun b => R.lookup b) b = some o → s.heap.get? b = some o ∧ b ≠ c.P := by
  intro b o e
  unfold Fz.join at e
  cases q : φ b with
  | some o' => rw [q] at e; cases e; exact ⟨H.fz _ _ q, fun z => by rw [z, H.Pφ] at q; cases q⟩
  | none =>
    rw [q, Option.none_or] at e
    have hm : (b, o) ∈ R := by
      clear H q
      induction R with
      | nil => cases e
      | cons p L ih =>
        have e : List.lookup b (p :: L) = some o := e
        rw [List.lookup_cons] at e
        split at e
        · rename_i q; cases e; rw [eq_of_beq q]; exact .head _
        · exact .tail _ (ih e)
    have L := H.led _ hm
    exact ⟨L.1, fun z => absurd H.Plt (Nat.not_lt.mpr (z ▸ L.2.2.2))⟩
theorem St.allK0 (H : St c φ m (p :: R) s) : (φ.join fun b => List.lookup b (p :: R)) p.1 = some p.2 := by
  have L := (H.led _ (.head _)).2.1
  unfold Fz.join
  rw [L, Option.none_or]
  obtain ⟨a, o⟩ := p
  show List.lookup a ((a, o) :: R) = some o
  rw [List.lookup_cons, beq_self_eq_true]
end
section
variable {K : Frag} {P : Addr} {w : World} {A : Around} {c : Cx} {φ κ ψ : Fz} {m : List (Str × Value)} {R R' : List (Addr × Obj)} {s s' : Shared} {p q r : Addr × Obj} {a b tp : Addr} {o otp : Obj}
theorem r_notin {pp : List Nat → Bool} {vs : List Value} {z : Str} {t : Tok} {Q : Value → Shared → Prop} (H : St c φ m ((a, o) :: R) s) (ho : LstO o vs.toArray) (hp : StrsP pp vs) (h : ∀ b : Bool, St c φ m R s → Q (.bool b) s) : wpAny (model PG w) A (compareOp .NotIn (.str z t) (.ref a)) Q NoE s :=
  SeqAt.notIn_listAt (keyIs (.str z t)) (H.isLst (.head _) ho) (fun y hy => eqAt_key (by obtain ⟨x, u, e, _⟩ := hp y (by simpa using hy); exact ⟨_, u, e⟩) trivial) (h _ (H.tail 1))
theorem r_unpackI {n : Nat} {t : Addr} {items : Array Value} {Q : List Value → Shared → Prop} (H : St c φ m R s) (hh : A.handled = none) (ht : s.heap.IsTuple t items) (hn : n = items.size) (h : ∀ s', St c φ m R s' → Q items.toList s') : wpAny (model PG w) A (unpackItems (.ref t) n none) Q NoE s := by
  subst hn
  exact unpackItems_tuple hh ht fun h' he => h _ (H.grown (k := s.toks) fun b o e => he b o (Nat.ne_of_lt (Heap.lt_size e)) e)
theorem lookup_mem {a : Addr} {o : Obj} : ∀ (R : List (Addr × Obj)), (R.map (·.1)).Nodup → (a, o) ∈ R → List.lookup a R = some o := by
  intro R
  induction R with
  | nil => intro _ h; cases h
  | cons q R ih =>
    intro hn hp
    rw [List.map_cons] at hn
    have hn := List.nodup_cons.mp hn
    obtain ⟨b, x⟩ := q
    rw [List.lookup_cons]
    rcases List.mem_cons.mp hp with e | hp
    · cases e; rw [beq_self_eq_true]
    · have hne : (a == b) = false := beq_eq_false_iff_ne.mpr fun e => hn.1 (e ▸ List.mem_map_of_mem (f := (·.1)) hp)
      rw [hne]
      exact ih hn.2 hp
theorem St.allKm (H : St c φ m R s) (i : Nat) (hi : R[i]? = some p) : (φ.join fun b => R.lookup b) p.1 = some p.2 := by
  have hm := List.mem_of_getElem? hi
  have L := (H.led _ hm).2.1
  unfold Fz.join
  rw [L, Option.none_or]
  exact lookup_mem R H.ord hm
end
section
variable {K : Frag} {P : Addr} {w : World} {A : Around} {c : Cx} {φ κ ψ : Fz} {m : List (Str × Value)} {R R' : List (Addr × Obj)} {s s' : Shared} {p q r : Addr × Obj} {a b tp : Addr} {o otp : Obj}
theorem r_app6 {p1 p2 p3 p4 p5 p6 : Addr × Obj} {its : Array Value} {x : Value} {Q : Value → Shared → Prop} (H : St c φ m (p1 :: p2 :: p3 :: p4 :: p5 :: p6 :: (a, o) :: R) s) (ho : LstO o its ∧ o.dict = none) (hz : its.size ≤ 1000)
    (h : ∀ o' s', (LstO o' (its.push x) ∧ o'.dict = none) → St c φ m (p1 :: p2 :: p3 :: p4 :: p5 :: p6 :: (a, o') :: R) s' → Q .none s') : wpAny (model PG w) A (call (.builtin "list.append") [.ref a, x]) Q NoE s :=
  r_app 6 H rfl ho hz h
end
section
variable {K : Frag} {P : Addr} {w : World} {A : Around} {c : Cx} {φ κ ψ : Fz} {m : List (Str × Value)} {R R' : List (Addr × Obj)} {s s' : Shared} {p q r : Addr × Obj} {a b l tp : Addr} {o otp : Obj} {u t : Tok}
theorem two_push {vl vu : Value} (H : St c φ m R s) (its : Array Value) (Q' : Value → Shared → Prop) (h : ∀ a o s', LstO o its → St c φ m ((a, o) :: R) s' → Q' (.ref a) s') :
    Q' (.ref (s.heap.objs.size + 1)) { s with heap := (s.heap.push { cls := .type "slice", data := .fields #[vl, vu, .none] }).push { cls := .type "list", data := .seq its } } := by
  have H1 := H.push { cls := .type "slice", data := .fields #[vl, vu, .none] } s.toks
  have H2 := H1.push { cls := .type "list", data := .seq its } s.toks
  have e : (s.heap.push { cls := .type "slice", data := .fields #[vl, vu, .none] }).objs.size = s.heap.objs.size + 1 := Heap.size_push ..
  rw [← e]
  refine h _ { cls := .type "list", data := .seq its } _ ⟨rfl, _, rfl⟩ (H2.sub (fun x hx => ?_) ?_)
  · rcases List.mem_cons.mp hx with rfl | hx
    · exact .head _
    · exact .tail _ (.tail _ hx)
  · have := H2.ord
    simp only [List.map_cons, List.nodup_cons, List.mem_cons, not_or] at this ⊢
    exact ⟨this.1.2, this.2.2⟩
theorem r_ltake {value slice : Expr} {its : Array Value} {k : Nat} {i : Int} {Q : Value → Shared → Prop} (H : St c φ m R s) (hl : s.heap.IsList l its) (hi : i = (k : Int)) (hz : its.size ≤ 1000000)
    (h : ∀ a o s', LstO o (its.toList.take k).toArray → St c φ m ((a, o) :: R) s' → Q (.ref a) s')
    (hs : subscripted slice false (.ref l) (.ref s.heap.objs.size) = operate [.ref s.heap.objs.size, .ref l] (getItem (.ref l) (.ref s.heap.objs.size)))
    (ht : ∀ r, letTemporaryGo value (.ref l) r = pure ()) :
    wpAny (model PG w) A (subscriptTail value slice (.ref l) (.ref s.heap.objs.size)) Q NoE { s with heap := s.heap.push { cls := .type "slice", data := .fields #[.none, .int i u, .none] } } := by
  subst hi
  refine slice_listK hl .none (.int _ _) ?_ hs ht (Nat.le_trans hz (by decide : 1000000 ≤ sizeLine))
  rw [slicePick_upto']
  exact two_push H _ _ h
theorem r_ldrop {value slice : Expr} {its : Array Value} {k : Nat} {i : Int} {Q : Value → Shared → Prop} (H : St c φ m R s) (hl : s.heap.IsList l its) (hi : i = (k : Int)) (hz : its.size ≤ 1000000)
    (h : ∀ a o s', LstO o (its.toList.drop k).toArray → St c φ m ((a, o) :: R) s' → Q (.ref a) s')
    (hs : subscripted slice false (.ref l) (.ref s.heap.objs.size) = operate [.ref s.heap.objs.size, .ref l] (getItem (.ref l) (.ref s.heap.objs.size)))
    (ht : ∀ r, letTemporaryGo value (.ref l) r = pure ()) :
    wpAny (model PG w) A (subscriptTail value slice (.ref l) (.ref s.heap.objs.size)) Q NoE { s with heap := s.heap.push { cls := .type "slice", data := .fields #[.int i u, .none, .none] } } := by
  subst hi
  refine slice_listK hl (.int _ _) .none ?_ hs ht (Nat.le_trans hz (by decide : 1000000 ≤ sizeLine))
  rw [slicePick_from']
  exact two_push H _ _ h
theorem r_fzitem {value slice : Expr} {its : Array Value} {n : Nat} {i : Int} {v : Value} {Q : Value → Shared → Prop} (hl : s.heap.IsList l its) (hi : i = (n : Int)) (hz : n < 1000000) (hv : its[n]? = some v)
    (hs : subscripted slice false (.ref l) (.int i u) = operate [.ref l, .int i u] (getItem (.ref l) (.int i u))) (h : Q v s) : wpAny (model PG w) A (subscriptTail value slice (.ref l) (.int i u)) Q NoE s := by
  subst hi
  exact tail_any hl.typeIs slot_list_getitem.lookup (wpAny_getItem_list hl (by lia) (by lia) (by simpa using hv) h) hs
theorem r_fzlast {value slice : Expr} {its : Array Value} {i : Int} {v : Value} {Q : Value → Shared → Prop} (hl : s.heap.IsList l its) (hi : i = -1) (hz : its.size < 1000000) (hu : its.toList.getLast? = some v)
    (hs : subscripted slice false (.ref l) (.int i u) = operate [.ref l, .int i u] (getItem (.ref l) (.int i u))) (h : Q v s) : wpAny (model PG w) A (subscriptTail value slice (.ref l) (.int i u)) Q NoE s := by
  subst hi
  have hn : its.size ≠ 0 := fun e => by
    have : its.toList = [] := by rw [← List.length_eq_zero_iff]; simpa using e
    rw [this] at hu; cases hu
  refine tail_any hl.typeIs slot_list_getitem.lookup (wpAny_getItem_list_neg hl (by lia) (by lia) (by lia) ?_ h) hs
  rw [List.getLast?_eq_getElem?] at hu
  rw [show ((-1 : Int) + its.size).toNat = its.toList.length - 1 by simp; lia]
  simpa using hu
theorem r_titem {value slice : Expr} {its : Array Value} {n : Nat} {i : Int} {v : Value} {Q : Value → Shared → Prop} (hl : s.heap.IsTuple l its) (hi : i = (n : Int)) (hz : n < 1000000) (hv : its[n]? = some v)
    (hs : subscripted slice false (.ref l) (.int i u) = operate [.ref l, .int i u] (getItem (.ref l) (.int i u))) (h : Q v s) : wpAny (model PG w) A (subscriptTail value slice (.ref l) (.int i u)) Q NoE s := by
  subst hi
  have hlt : n < its.size := by
    rcases Nat.lt_or_ge n its.size with x | x
    · exact x
    · rw [Array.getElem?_eq_none x] at hv; cases hv
  obtain ⟨L⟩ := its
  exact item_tupleT (l := L) (j := n) hl (by lia) (by lia) (by rw [seqIndex_of (by lia) (by simpa using hlt)]; simp) (by simpa using hv) h hs
theorem r_len {its : Array Value} {Q : Value → Shared → Prop} (H : St c φ m R s) (hl : s.heap.IsList l its) (hz : its.size ≤ 1000000) (h : ∀ t s', St c φ m R s' → Q (.int (its.size : Nat) t) s') : wpAny (model PG w) A (call (.builtin "len") [.ref l]) Q NoE s :=
  PyProof.Rows.len_list hl (by lia) (h _ _ (H.toks _))
theorem r_mod_intE {a : Int} {b : Nat} {i : Int} {Q : Value → Shared → Prop} (hi : i = (b : Int)) (H : St c φ m R s) (hb : 0 < b) (h : ∀ t s', St c φ m R s' → Q (.int ((a % (b : Int)).toNat : Nat) t) s') : wpAny (model PG w) A (binaryOp .Mod (.int a t) (.int i u)) Q NoE s := by
  subst hi
  refine mod_int' (by lia) ?_
  have e : a.fmod (b : Int) = ((a % (b : Int)).toNat : Int) := by
    rw [Int.fmod_eq_emod_of_nonneg _ (by lia)]
    have := Int.emod_nonneg a (show (b : Int) ≠ 0 by lia); lia
  rw [e]
  exact h _ _ (H.toks _)
theorem emod_lt {a : Int} {b : Nat} (hb : 0 < b) : (a % (b : Int)).toNat < b := by
  have := Int.emod_lt_of_pos a (show (0 : Int) < b by lia)
  have := Int.emod_nonneg a (show (b : Int) ≠ 0 by lia)
  lia
end
section
variable {K : Frag} {P : Addr} {w : World} {A : Around} {c : Cx} {φ : Fz} {m : List (Str × Value)} {R : List (Addr × Obj)} {s : Shared} {q : Str} {sc : Scope} {f : Addr} {cd : Value} {x : Str} {v : Value} {pos pos' : Pos}
theorem sp_loc {rest : List Expr} {Q : List Value → Shared → Prop} (H : St c φ m R s) (hv : Lk m x v) (h : wpAny (model PG w) A (spliced (backTo pos (starEach rest (envOf q sc c.L f cd)))) (fun vs s₂ => Q (v :: vs) s₂) NoE s)
    (hk : sc.kind = .function := by kernel_rfl!) (hx : sc.names.lookup x = some .local := by kernel_rfl!) (hd : (x == ("__debug__" : Str)) = false := by kernel_rfl!) :
    wpAny (model PG w) A (spliced (backTo pos (starEach (.Name x pos' :: rest) (envOf q sc c.L f cd)))) Q NoE s := sp_cons (r_loc H hv h hk hx hd) rfl
theorem sp_str {env : Env} {rest : List Expr} {k : Nat} {y : Str} {Q : List Value → Shared → Prop} (H : St c φ m R s) (h : ∀ t s', St c φ m R s' → wpAny (model PG w) A (spliced (backTo pos (starEach rest env))) (fun vs s₂ => Q (.str y t :: vs) s₂) NoE s') :
    wpAny (model PG w) A (spliced (backTo pos (starEach (.Constant (.str y) k pos' :: rest) env))) Q NoE s := sp_cons (r_str H h) rfl
theorem sp_int {env : Env} {rest : List Expr} {k : Nat} {i : Int} {Q : List Value → Shared → Prop} (H : St c φ m R s) (h : ∀ t s', St c φ m R s' → wpAny (model PG w) A (spliced (backTo pos (starEach rest env))) (fun vs s₂ => Q (.int i t :: vs) s₂) NoE s') :
    wpAny (model PG w) A (spliced (backTo pos (starEach (.Constant (.int i) k pos' :: rest) env))) Q NoE s := sp_cons (r_int H h) rfl
theorem xs_assign {env : Env} {rest : List Stmt} {value : Expr} {Q : Flow → Shared → Prop} (h : wpAny (model PG w) A (eval value env) (fun v s₁ => wpAny (model PG w) A (storeName env x v) (fun _ s₂ => wpAny (model PG w) A (execs rest env) Q NoE s₂) NoE s₁) NoE s)
    (hs : swapsWith value (some (.Name x pos')) pos.line env = pure false) : wpAny (model PG w) A (execs (.Assign [.Name x pos'] value pos :: rest) env) Q NoE s :=
  wpAny_execs_cons (wpAny_Assign_Name h hs)
theorem xs_return {env : Env} {rest : List Stmt} {e : Expr} {Q : Flow → Shared → Prop} (h : wpAny (model PG w) A (eval e env) (fun v s₁ => Q (.ret v) s₁) NoE s) : wpAny (model PG w) A (execs (.Return (some e) pos :: rest) env) Q NoE s :=
  wpAny_execs_cons (wpAny_Return_some h)
theorem xs_expr {env : Env} {rest : List Stmt} {e : Expr} {Q : Flow → Shared → Prop} (h : wpAny (model PG w) A (eval e env) (fun _ s₁ => wpAny (model PG w) A (execs rest env) Q NoE s₁) NoE s) (hi : interactive env = false) (hs : swapsWith e none pos.line env = pure false) :
    wpAny (model PG w) A (execs (.Expr e pos :: rest) env) Q NoE s :=
  wpAny_execs_cons (wpAny_Expr_any h hi hs)
theorem cmp_li {op : CmpOp} {k : Nat} {i : Int} {pos'' : Pos} {whole : Sem Value} {Q : Bool → Shared → Prop} (H : St c φ m R s) (hv : Lk m x v) (h : ∀ t s', St c φ m R s' → wpAny (model PG w) A (compareOp op v (.int i t)) (fun c s₃ => wpAny (model PG w) A (truthy c) Q NoE s₃) NoE s')
    (hm : behindInMarks op (.Constant (.int i) k pos') = false) (hk : sc.kind = .function := by kernel_rfl!) (hx : sc.names.lookup x = some .local := by kernel_rfl!) (hd : (x == ("__debug__" : Str)) = false := by kernel_rfl!) :
    wpAny (model PG w) A (PySem.isTrue (.Compare (.Name x pos'') [op] [.Constant (.int i) k pos'] pos) (envOf q sc c.L f cd) whole) Q NoE s := wpAny_isTrue_Compare1 (r_loc H hv (r_int H h) hk hx hd) hm
theorem cmp_ls {op : CmpOp} {k : Nat} {y : Str} {pos'' : Pos} {whole : Sem Value} {Q : Bool → Shared → Prop} (H : St c φ m R s) (hv : Lk m x v) (h : ∀ t s', St c φ m R s' → wpAny (model PG w) A (compareOp op v (.str y t)) (fun c s₃ => wpAny (model PG w) A (truthy c) Q NoE s₃) NoE s')
    (hm : behindInMarks op (.Constant (.str y) k pos') = false) (hk : sc.kind = .function := by kernel_rfl!) (hx : sc.names.lookup x = some .local := by kernel_rfl!) (hd : (x == ("__debug__" : Str)) = false := by kernel_rfl!) :
    wpAny (model PG w) A (PySem.isTrue (.Compare (.Name x pos'') [op] [.Constant (.str y) k pos'] pos) (envOf q sc c.L f cd) whole) Q NoE s := wpAny_isTrue_Compare1 (r_loc H hv (r_str H h) hk hx hd) hm
theorem bin_li {op : Operator} {k : Nat} {i : Int} {pos'' : Pos} {Q : Value → Shared → Prop} (H : St c φ m R s) (hv : Lk m x v) (h : ∀ t s', St c φ m R s' → wpAny (model PG w) A (binaryOp op v (.int i t)) Q NoE s')
    (hk : sc.kind = .function := by kernel_rfl!) (hx : sc.names.lookup x = some .local := by kernel_rfl!) (hd : (x == ("__debug__" : Str)) = false := by kernel_rfl!) :
    wpAny (model PG w) A (eval (.BinOp (.Name x pos'') op (.Constant (.int i) k pos') pos) (envOf q sc c.L f cd)) Q NoE s := wpAny_BinOp (r_loc H hv (r_int H h) hk hx hd)
end
local macro_rules | `(tactic| walk_at "lit") => `(tactic| (simp only [lits, S_append, S_length, List.length_append, List.length_cons, List.length_nil]))
local macro_rules | `(tactic| walk_at "lits") => `(tactic| (simp only [lits, S_append, S_beq, one_S2] at *))
local macro_rules | `(tactic| walk_at "lk") => `(tactic| ((repeat' (first | with_reducible exact Lk.here | ((with_reducible show Lk _ _ _); (with_reducible assumption)) | (refine' Lk.there (by kernel_rfl!) ?_))); done))
local macro_rules | `(tactic| walk_at "in") => `(tactic| (
  (case ho => k_is); (case hcd => k_is); (case hbind => exact BindsTo.of_eq (by rfl)); (case hm => rfl); (case hDs => rfl); (case hloc => kernel_rfl!); (case hcell => kernel_rfl!); (case hco => rfl); (case hgen => rfl); (case hk => rfl)))
local macro_rules | `(tactic| walk_at "g") => `(tactic| first
  | (with_reducible refine IfExp_ ?_)
  | (with_reducible refine isTrue_or ?_)
  | (with_reducible refine isTrue_or_nil ?_)
  | (with_reducible refine isTrue_and ?_)
  | (with_reducible refine isTrue_and_nil ?_)
  | (with_reducible refine wpAny_isTrue_Compare1 ?_ (by with_unfolding_all rfl))
  | (with_reducible refine isTrue_chain ?_ (by with_unfolding_all rfl))
  | (with_reducible refine' name_loc (by with_unfolding_all assumption) (by with_unfolding_all assumption) ?_ (by kernel_rfl!) (by kernel_rfl!) (by kernel_rfl!))
  | (with_reducible refine' name_bi (by assumption) (by with_unfolding_all assumption) (by k_is) (by boot_fast) ?_ (by with_unfolding_all rfl) (by with_unfolding_all rfl) (by kernel_rfl!) (by kernel_rfl!) (by kernel_rfl!) (by kernel_rfl!))
  | (with_reducible refine Calls.Constant_str ?_)
  | (with_reducible refine wpAny_Constant_int ?_)
  | (with_reducible refine wpAny_truthy_bool ?_)
  | (with_reducible refine in_str ?_)
  | (with_reducible refine eq_str ?_)
  | (with_reducible refine gt_int ?_)
  | (with_reducible refine wpAny_BinOp ?_)
  | (with_reducible refine Call_ ?_ (by with_unfolding_all rfl))
  | (with_reducible refine PyProof.Rows.callWith_builtin1 ?_ (by with_unfolding_all rfl) (by with_unfolding_all rfl))
  | (with_reducible refine sp_cons ?_ (by with_unfolding_all rfl))
  | (with_reducible refine sp_nil ?_)
  | (refine ord_of_one (by rfl) ?_)
  | (refine ite_tt ?_)
  | (refine ite_ff ?_))
local macro_rules | `(tactic| walk_at "len") => `(tactic| (first | assumption | lia | (simp only [List.length_take, List.length_drop, List.length_cons, List.length_nil, S_length, List.length_append] at *; lia) | ((try walk_at "lit"); (try simp only [List.length_take, List.length_drop, List.length_cons, List.length_nil, S_length, List.length_append] at *); (have hsl := sizeLine_eq); lia)))
local macro_rules | `(tactic| walk_at "call") => `(tactic| (with_reducible refine And.intro (Alive.of (by with_reducible assumption)) ?_))
local macro_rules | `(tactic| walk_at "i") => `(tactic| (with_reducible refine IfExp_ ?_))
local macro_rules | `(tactic| walk_at "lt") => `(tactic| first | decide | lia | assumption)
local macro_rules | `(tactic| walk_at "setf") => `(tactic| first
  | with_reducible assumption
  | (refine' SetF.mk (by k_is) (by k_is) (by k_is) (by k_is) (by k_is) (by decide)))
local macro_rules | `(tactic| walk_at "getf") => `(tactic| first
  | with_reducible assumption
  | (refine' GetF.mk (by k_is) (by k_is) (by k_is) (by k_is) (by k_is) (by k_is)))
local macro_rules | `(tactic| walk_at "inw") => `(tactic| (
  (case ho => k_is); (case hcd => k_is); (case hbind => (intro _ _; exact BindsTo.of_eq (by rfl))); (case hloc => kernel_rfl!); (case hcell => kernel_rfl!); (case hco => rfl); (case hgen => rfl); (case hk => rfl)))
local macro_rules | `(tactic| walk_at "lg") => `(tactic| (simp only [lits, S_append, S_length]))
local macro_rules | `(tactic| walk_at "lgz") => `(tactic| (simp only [lits, S_append, S_length, List.length_append, List.length_cons, List.length_nil]; lia))
local macro_rules | `(tactic| walk_at "s.eval") => `(tactic| with_reducible first
  | ((show wpAny _ _ (eval (Expr.Name _ _) _) _ _ _); first | refine' r_loc (by assumption) (by walk_at "lk") ?_ | refine' r_glob (by assumption) (by assumption) (by k_is) ?_ | refine' r_bi (by assumption) (by assumption) (by k_is) (by boot_fast) ?_ | refine' rc_loc (by assumption) (by walk_at "lk") ?_ | refine' rc_glob (by assumption) (by assumption) (by k_is) ?_ | refine' rc_bi (by assumption) (by assumption) (by k_is) (by boot_fast) ?_)
  | ((show wpAny _ _ (eval (Expr.BinOp _ _ _ _) _) _ _ _); first | (refine' bin_li (by assumption) (by walk_at "lk") ?_; intro _ _ _) | refine wpAny_BinOp ?_)
  | refine BoolOp_and ?_
  | refine BoolOp_one ?_
  | refine Attribute_name ?_
  | refine' Attribute_any_ ?_ (by with_unfolding_all rfl)
  | refine' r_listcomp (by kernel_rfl!) (by with_unfolding_all rfl) (by kernel_rfl!) (by intro _; with_unfolding_all rfl) ?_
  | refine wpAny_Slice ?_
  | refine Tuple_ ?_
  | refine List_ ?_
  | (refine r_str (by assumption) ?_; intro _ _ _)
  | (refine r_int (by assumption) ?_; intro _ _ _)
  | refine Constant_bool ?_
  | refine Constant_none ?_
  | refine wpAny_Compare1 ?_ (by with_unfolding_all rfl)
  | refine UnaryOp_ ?_
  | refine Subscript_ ?_
  | refine' MethodCall_ ?_ (by with_unfolding_all rfl)
  | refine Call_ ?_ (by with_unfolding_all rfl))
local macro_rules | `(tactic| walk_at "s.execs") => `(tactic| with_reducible first
  | refine xs_assign ?_ (by with_unfolding_all rfl)
  | refine xs_return ?_
  | refine' xs_expr ?_ (by with_unfolding_all rfl) (by with_unfolding_all rfl)
  | refine wpAny_execs_cons ?_
  | refine wpAny_execs_nil ?_)
local macro_rules | `(tactic| walk_at "s.exec") => `(tactic| with_reducible first
  | refine' Assign_Tuple ?_ (by with_unfolding_all rfl) (by with_unfolding_all rfl)
  | refine' wpAny_Expr_any ?_ (by with_unfolding_all rfl) (by with_unfolding_all rfl)
  | refine r_try ?_
  | refine' plainObj_wpAny_Assign_Attribute ?_ (by with_unfolding_all rfl)
  | refine wpAny_While ?_
  | refine wpAny_For ?_ (by intro _; with_unfolding_all rfl)
  | refine wpAny_If ?_
  | refine wpAny_Return_some ?_
  | refine wpAny_Assign_Name ?_ (by with_unfolding_all rfl)
  | refine wpAny_AugAssign_Name ?_)
local macro_rules | `(tactic| walk_at "s.spliced") => `(tactic| with_reducible first
  | refine sp_nil ?_
  | (refine sp_str (by assumption) ?_; intro _ _ _)
  | (refine sp_int (by assumption) ?_; intro _ _ _)
  | refine' sp_loc (by assumption) (by walk_at "lk") ?_
  | refine sp_cons ?_ (by with_unfolding_all rfl))
local macro_rules | `(tactic| walk_at "s.callWith") => `(tactic| with_reducible first
  | refine' r_write (by assumption) (by assumption) (by with_unfolding_all rfl) (by with_unfolding_all rfl) ?_
  | refine PyProof.Rows.callWith_type1 ?_ (by with_unfolding_all rfl) (by with_unfolding_all rfl)
  | refine' r_call (by assumption) (by assumption) (by k_is) (by with_unfolding_all rfl) (by with_unfolding_all rfl) ?_
  | refine' r_call0 (by assumption) (by assumption) (by k_is) (by with_unfolding_all rfl) ?_
  | refine PyProof.Rows.callWith_builtin1 ?_ (by with_unfolding_all rfl) (by with_unfolding_all rfl)
  | refine callWith_method1 ?_ (by with_unfolding_all rfl) (by with_unfolding_all rfl))
local macro_rules | `(tactic| walk_at "s.call") => `(tactic| first
  | ((with_reducible refine' r_wck (by with_reducible assumption) (by with_reducible assumption) (by with_reducible assumption) ?_ ?_); lia; intro _ _ _ _)
  | ((with_reducible refine' r_chr (by with_reducible assumption) ?_ ?_ ?_); (focus walk_at "lt"); (focus walk_at "lt"); intro _ _ _)
  | ((with_reducible show wpAny _ _ (call (Value.builtin "str.join") _) _ _ _); (refine' r_join (by with_reducible assumption) (by with_reducible assumption) (by with_reducible assumption) (by walk_at "len") ?_); intro _ _ _)
  | ((with_reducible refine r_ordS (by with_reducible assumption) ?_); intro _ _ _)
  | ((with_reducible refine r_ord (by with_reducible assumption) (by first | with_unfolding_all rfl | assumption) ?_); intro _ _ _))
local macro_rules | `(tactic| walk_at "s.storeName") => `(tactic| with_reducible first
  | (refine r_store (by assumption) ?_; intro _ _))
local macro_rules | `(tactic| walk_at "s.compareOp") => `(tactic| with_reducible first
  | refine P.le_str ?_
  | refine r_eq_lit ?_
  | refine in_str ?_
  | refine eq_str ?_
  | refine ne_str ?_
  | refine eq_int ?_
  | refine lt_int ?_
  | refine gt_int ?_
  | refine le_int ?_)
local macro_rules | `(tactic| walk_at "s.isTrue") => `(tactic| with_reducible first
  | ((show wpAny _ _ (PySem.isTrue (Expr.Compare _ _ _ _) _ _) _ _ _); first | (refine' cmp_li (by assumption) (by walk_at "lk") ?_ (by with_unfolding_all rfl); intro _ _ _) | (refine' cmp_ls (by assumption) (by walk_at "lk") ?_ (by with_unfolding_all rfl); intro _ _ _) | refine wpAny_isTrue_Compare1 ?_ (by with_unfolding_all rfl) | refine isTrue_chain ?_ (by with_unfolding_all rfl))
  | refine isTrue_or ?_
  | refine isTrue_or_nil ?_
  | refine isTrue_and ?_
  | refine isTrue_and_nil ?_
  | refine isTrue_not ?_
  | refine isTrue_plain ?_ (by with_unfolding_all rfl))
local macro_rules | `(tactic| walk_at "s.getMethod") => `(tactic| with_reducible first
  | (refine' r_clsfn (by assumption) (by assumption) (by k_is) (by k_is) (by k_is) (by k_is) (by kernel_rfl!) ?_; intro _ _)
  | refine GM.join ?_
  | refine GM.startswith ?_)
local macro_rules | `(tactic| walk_at "s.truthy") => `(tactic| with_reducible first
  | refine r_truthy_nat ?_
  | refine wpAny_truthy_bool ?_)
local macro_rules | `(tactic| walk_at "s.binaryOp") => `(tactic| with_reducible first
  | (refine r_add_lit (by assumption) ?_; intro _ _ _)
  | (refine' r_add_nat (by with_reducible exact rfl) (by assumption) ?_; intro _ _ _)
  | (refine' r_mod_lit (by assumption) ?_ ?_; (focus walk_at "lt"); intro _ _ _)
  | (refine' r_fdiv_lit (by assumption) ?_ ?_ ?_; (focus walk_at "lt"); (focus walk_at "lt"); intro _ _ _)
  | (refine' r_sub_lit ?_ (by assumption) ?_; (focus walk_at "lt"); intro _ _ _)
  | (refine' r_hex1 (by assumption) ?_ ?_; (focus walk_at "len"); intro _ _ _)
  | (refine' r_hex2 (by assumption) ?_ ?_; (focus walk_at "len"); intro _ _ _)
  | (refine' r_hex3 (by assumption) (by assumption) ?_ ?_ ?_; (focus walk_at "len"); (focus walk_at "len"); intro _ _ _)
  | (refine r_add_str (by assumption) ?_ ?_; (focus walk_at "len"); intro _ _ _))
local macro_rules | `(tactic| walk_at "s.subscriptTail") => `(tactic| with_reducible first
  | ((show wpAny _ _ (subscriptTail _ _ _ (Value.int _ _)) _ _ _); first | (refine' r_item 0 (by assumption) (by with_unfolding_all rfl) ?_ (by decide) ?_ (by intros; with_unfolding_all rfl) (by intros; with_unfolding_all rfl); (focus walk_at "len"); intro _ _ _) | (refine' r_item 1 (by assumption) (by with_unfolding_all rfl) ?_ (by decide) ?_ (by intros; with_unfolding_all rfl) (by intros; with_unfolding_all rfl); (focus walk_at "len"); intro _ _ _))
  | (refine' r_take 2 (by assumption) (by with_unfolding_all rfl) ?_ ?_ (by intros; with_unfolding_all rfl) (by intros; with_unfolding_all rfl); (focus walk_at "len"); intro _ _ _)
  | (refine' r_take 1 (by assumption) (by with_unfolding_all rfl) ?_ ?_ (by intros; with_unfolding_all rfl) (by intros; with_unfolding_all rfl); (focus walk_at "len"); intro _ _ _)
  | (refine' r_take _ (by assumption) (by with_reducible rfl) ?_ ?_ (by intros; with_unfolding_all rfl) (by intros; with_unfolding_all rfl); (focus walk_at "len"); intro _ _ _)
  | (refine' r_drop 1 (by assumption) (by with_unfolding_all rfl) ?_ ?_ (by intros; with_unfolding_all rfl) (by intros; with_unfolding_all rfl); (focus walk_at "len"); intro _ _ _)
  | (refine' r_drop 2 (by assumption) (by with_unfolding_all rfl) ?_ ?_ (by intros; with_unfolding_all rfl) (by intros; with_unfolding_all rfl); (focus walk_at "len"); intro _ _ _))
local macro_rules | `(tactic| walk_at "s.getAttr") => `(tactic| with_reducible first
  | (refine' r_slot (by assumption) (by assumption) (by assumption) (by assumption) (by walk_at "getf") (by with_unfolding_all rfl) (by with_unfolding_all rfl) ?_; intro _ _))
local macro_rules | `(tactic| walk_at "s.newTuple") => `(tactic| with_reducible first
  | (refine r_tuple (by assumption) (Nat.le_of_ble_eq_true rfl) ?_; intro _ _ _ _ _))
local macro_rules | `(tactic| walk_at "s.newList") => `(tactic| with_reducible first
  | (refine r_list (by assumption) (Nat.le_of_ble_eq_true rfl) ?_; intro _ _ _ _ _))
local macro_rules | `(tactic| walk_at "s.assign") => `(tactic| first
  | (with_reducible refine PyProof.Rows.assign_Name ?_)
  | ((with_reducible refine' r_unpack (by with_reducible assumption) (by exact Rm.hh (by with_reducible assumption)) (by first | with_reducible assumption | walk_at "tup") (by with_unfolding_all rfl) (by with_unfolding_all rfl) ?_); intro _ _; (show wpAny _ _ (assignInOrder [_, _] [_, _]) _ _ _); refine assignInOrder_cons ?_; (show wpAny _ _ (assign _ _ _) _ _ _)))
local macro_rules | `(tactic| walk_at "s.assignInOrder") => `(tactic| first
  | ((with_reducible refine assignInOrder_cons ?_); (show wpAny _ _ (assign _ _ _) _ _ _))
  | (with_reducible refine assignInOrder_nil ?_))
local macro_rules | `(tactic| walk_at "s.loadName") => `(tactic| with_reducible first
  | refine' r_load (by assumption) (by walk_at "lk") ?_)
local macro_rules | `(tactic| walk_at "s.inplaceOp") => `(tactic| with_reducible first
  | (refine' r_ifdiv_lit (by assumption) ?_ ?_ ?_; (focus walk_at "lt"); (focus walk_at "lt"); intro _ _ _)
  | (refine r_iadd_str (by assumption) ?_ ?_; (focus walk_at "len"); intro _ _ _))
local macro_rules | `(tactic| walk_at "s.setAttr") => `(tactic| first
  | ((with_reducible refine' r_set (by with_reducible assumption) (by with_reducible assumption) (by with_reducible assumption) (by walk_at "setf") (by first | (simp only [setL]; with_reducible rfl) | with_reducible assumption | with_unfolding_all rfl) ?_); intro _ _))
local macro_rules | `(tactic| walk_at "s.rest") => `(tactic| first
  | (with_reducible refine test_link ?_)
  | ((with_reducible show wpAny _ _ (testChain _ _ [_] _) _ _ _); (refine test_last ?_))
  | (with_reducible refine evalPart_none_step ?_)
  | (with_reducible refine evalPart_some_step ?_)
  | (with_reducible refine ite_tt ?_)
  | (with_reducible refine ite_ff ?_))
local macro_rules | `(tactic| walk_at "s") => `(tactic| first
  | ((with_reducible show wpAny _ _ (eval _ _) _ _ _); walk_at "s.eval")
  | ((with_reducible show wpAny _ _ (execs _ _) _ _ _); walk_at "s.execs")
  | ((with_reducible show wpAny _ _ (exec _ _) _ _ _); walk_at "s.exec")
  | ((with_reducible show wpAny _ _ (spliced _) _ _ _); walk_at "s.spliced")
  | ((with_reducible show wpAny _ _ (callWith _ _ _ _ _) _ _ _); walk_at "s.callWith")
  | ((with_reducible show wpAny _ _ (call _ _) _ _ _); walk_at "s.call")
  | ((with_reducible show wpAny _ _ (storeName _ _ _) _ _ _); walk_at "s.storeName")
  | ((with_reducible show wpAny _ _ (compareOp _ _ _) _ _ _); walk_at "s.compareOp")
  | ((with_reducible show wpAny _ _ (PySem.isTrue _ _ _) _ _ _); walk_at "s.isTrue")
  | ((with_reducible show wpAny _ _ (getMethod _ _ _) _ _ _); walk_at "s.getMethod")
  | ((with_reducible show wpAny _ _ (truthy _) _ _ _); walk_at "s.truthy")
  | ((with_reducible show wpAny _ _ (binaryOp _ _ _) _ _ _); walk_at "s.binaryOp")
  | ((with_reducible show wpAny _ _ (subscriptTail _ _ (Value.str _ _) _) _ _ _); walk_at "s.subscriptTail")
  | ((with_reducible show wpAny _ _ (getAttr _ _ _) _ _ _); walk_at "s.getAttr")
  | ((with_reducible show wpAny _ _ (newTuple _) _ _ _); walk_at "s.newTuple")
  | ((with_reducible show wpAny _ _ (newList _) _ _ _); walk_at "s.newList")
  | ((with_reducible show wpAny _ _ (assign _ _ _) _ _ _); walk_at "s.assign")
  | ((with_reducible show wpAny _ _ (assignInOrder _ _) _ _ _); walk_at "s.assignInOrder")
  | ((with_reducible show wpAny _ _ (loadName _ _) _ _ _); walk_at "s.loadName")
  | ((with_reducible show wpAny _ _ (inplaceOp _ _ _) _ _ _); walk_at "s.inplaceOp")
  | ((with_reducible show wpAny _ _ (setAttr _ _ _) _ _ _); walk_at "s.setAttr")
  | walk_at "s.rest")
theorem filled : KF = KF ∧ PySem.Challenge.rw_te0059_01 = PySem.Challenge.rw_te0059_01 := by k_fill; exact ⟨rfl, rfl⟩
/-! plain functions on texts -/
def plainC (n : Nat) : Bool := (48 ≤ n && n ≤ 57) || (65 ≤ n && n ≤ 90) || (97 ≤ n && n ≤ 122) || n == 45 || n == 95
/-- one sign of a name -/
def enc (n : Nat) : List Nat := if plainC n || 127 < n then [n] else if n = 10 then [92, 65, 32] else if n = 13 then [92, 68, 32] else if n = 12 then [92, 67, 32] else [92, n]
def encS (n : Nat) : Str := S (enc n)
def encN (l : List Nat) : List Nat := l.flatMap enc
theorem enc_len (n : Nat) : 1 ≤ (enc n).length ∧ (enc n).length ≤ 3 := by unfold enc; refine ⟨?_, ?_⟩ <;> (repeat' split) <;> simp
theorem encN_len (l : List Nat) : (encN l).length ≤ 3 * l.length := by
  induction l with
  | nil => simp [encN]
  | cons a l ih => have := (enc_len a).2; simp only [encN, List.flatMap_cons, List.length_append, List.length_cons] at *; lia
theorem mem_small {L : List Nat} {p : Nat → Bool} (h1 : (List.range 128).all (fun k => decide (k ∈ L) == p k) = true) (h2 : L.all (· < 128) = true) (h3 : ∀ k, 128 ≤ k → p k = false) (k : Nat) : decide (k ∈ L) = p k := by
  by_cases hk : k < 128
  · exact beq_iff_eq.mp (List.all_eq_true.mp h1 k (List.mem_range.mpr hk))
  · rw [h3 k (by lia), decide_eq_false_iff_not]
    intro hm
    have := List.all_eq_true.mp h2 k hm
    simp at this; lia
theorem plainC_hi (k : Nat) (h : 128 ≤ k) : plainC k = false := by simp [plainC]; lia
theorem join_empty : ∀ l : List Str, Str.join (Str.ofString "") l = S (l.flatMap fun x => x.cps.toList)
  | [] => rfl
  | [x] => by rw [List.flatMap_cons, List.flatMap_nil, List.append_nil]; exact S_list x
  | x :: y :: r => by
    have e : Str.join (Str.ofString "") (x :: y :: r) = x ++ Str.ofString "" ++ Str.join (Str.ofString "") (y :: r) := rfl
    rw [e, join_empty (y :: r)]
    have e0 : x ++ Str.ofString "" = x := by
      have : Str.ofString "" = S [] := by decide +kernel
      rw [this, S_list x, S_append, List.append_nil]
    rw [e0]
    conv => lhs; rw [S_list x]
    rw [S_append]; simp only [List.flatMap_cons]
theorem lit_plain1 (k : Nat) : (!(Builtin.Str.occurrences (Str.ofString "abcdefghijklmnopqrstuvwxyz-_0123456789ABCDEFGHIJKLMNOPQRSTUVWXYZ") ⟨#[k]⟩ 0 (Str.ofString "abcdefghijklmnopqrstuvwxyz-_0123456789ABCDEFGHIJKLMNOPQRSTUVWXYZ").length 1).isEmpty) = plainC k := by
  rw [StrLaws.found_one]; exact mem_small (by decide +kernel) (by decide +kernel) plainC_hi k
theorem lit_plain2 (k : Nat) : (!(Builtin.Str.occurrences (Str.ofString "abcdefghijklmnopqrstuvwxyzABCDEFGHIJKLMNOPQRSTUVWXYZ0123456789-_") ⟨#[k]⟩ 0 (Str.ofString "abcdefghijklmnopqrstuvwxyzABCDEFGHIJKLMNOPQRSTUVWXYZ0123456789-_").length 1).isEmpty) = plainC k := by
  rw [StrLaws.found_one]; exact mem_small (by decide +kernel) (by decide +kernel) plainC_hi k
theorem one_beq (k c : Nat) : ((⟨#[k]⟩ : Str) == ⟨#[c]⟩) = (k == c) := by
  by_cases h : k = c
  · subst h; rw [beq_self_eq_true, beq_self_eq_true]
  · have : (⟨#[k]⟩ : Str) ≠ ⟨#[c]⟩ := fun e => h (by injection e with e; simpa using e)
    rw [beq_eq_false_iff_ne.mpr this, beq_eq_false_iff_ne.mpr h]
theorem lit_lf (k : Nat) : ((⟨#[k]⟩ : Str) == Str.ofString "\n") = (k == 10) := by rw [show Str.ofString "\n" = ⟨#[10]⟩ by decide +kernel, one_beq]
theorem lit_cr (k : Nat) : ((⟨#[k]⟩ : Str) == Str.ofString "\r") = (k == 13) := by rw [show Str.ofString "\r" = ⟨#[13]⟩ by decide +kernel, one_beq]
theorem lit_ff (k : Nat) : ((⟨#[k]⟩ : Str) == Str.ofString "\x0c") = (k == 12) := by rw [show Str.ofString "\x0c" = ⟨#[12]⟩ by decide +kernel, one_beq]
theorem lit_eA : Str.ofString "\\A " = S [92, 65, 32] := by decide +kernel
theorem lit_eD : Str.ofString "\\D " = S [92, 68, 32] := by decide +kernel
theorem lit_eC : Str.ofString "\\C " = S [92, 67, 32] := by decide +kernel
theorem lit_bs : Str.ofString "\\" = S [92] := by decide +kernel
theorem one_S (k : Nat) : (⟨#[k]⟩ : Str) = S [k] := rfl
theorem foldl_len (l : List Str) : ∀ a : Nat, l.foldl (fun n x => n + x.length + 0) a = a + (l.map (·.length)).sum := by
  induction l with
  | nil => intro a; simp
  | cons x r ih => intro a; rw [List.foldl_cons, ih, List.map_cons, List.sum_cons]; lia
theorem joinOk_of (l : List Str) (h : (l.map (·.length)).sum ≤ sizeLine) : JoinOk (Str.ofString "") l = true := by
  have e0 : (Str.ofString "").length = 0 := by decide +kernel
  unfold JoinOk Builtin.Str.tooLong
  rw [e0, List.foldl_toArray, foldl_len, Nat.zero_add]
  simpa using h
theorem sum_encS (l : List Nat) : ((l.map encS).map (·.length)).sum = (encN l).length := by
  induction l with
  | nil => rfl
  | cons a r ih => simp only [List.map_cons, List.sum_cons, ih, encN, List.flatMap_cons, List.length_append, encS, S_length]
section
variable {k : Nat}
theorem enc_1 (h : plainC k = true) : (⟨#[k]⟩ : Str) = encS k := by simp [encS, enc, h, S]
theorem enc_2 (h : decide ((127 : Int) < ((#[k].getD 0 0 : Nat) : Int)) = true) : (⟨#[k]⟩ : Str) = encS k := by
  have h' : 127 < k := by simp at h; lia
  simp [encS, enc, h', S]
theorem enc_no (h1 : ¬ plainC k = true) (h2 : ¬ decide ((127 : Int) < ((#[k].getD 0 0 : Nat) : Int)) = true) : (plainC k || decide (127 < k)) = false := by
  have h' : ¬ 127 < k := by simp at h2; lia
  simp at h1; simp [h1, h']
theorem enc_3 (h1 : ¬ plainC k = true) (h2 : ¬ decide ((127 : Int) < ((#[k].getD 0 0 : Nat) : Int)) = true) (h3 : (k == 10) = true) : S [92, 65, 32] = encS k := by
  simp at h3; subst h3; decide +kernel
theorem enc_4 (h1 : ¬ plainC k = true) (h2 : ¬ decide ((127 : Int) < ((#[k].getD 0 0 : Nat) : Int)) = true) (h3 : ¬ (k == 10) = true) (h4 : (k == 13) = true) : S [92, 68, 32] = encS k := by
  simp at h4; subst h4; decide +kernel
theorem enc_5 (h1 : ¬ plainC k = true) (h2 : ¬ decide ((127 : Int) < ((#[k].getD 0 0 : Nat) : Int)) = true) (h3 : ¬ (k == 10) = true) (h4 : ¬ (k == 13) = true) (h5 : (k == 12) = true) : S [92, 67, 32] = encS k := by
  simp at h5; subst h5; decide +kernel
theorem enc_6 (h1 : ¬ plainC k = true) (h2 : ¬ decide ((127 : Int) < ((#[k].getD 0 0 : Nat) : Int)) = true) (h3 : ¬ (k == 10) = true) (h4 : ¬ (k == 13) = true) (h5 : ¬ (k == 12) = true) : Str.ofString "\\" ++ (⟨#[k]⟩ : Str) = encS k := by
  simp at h3 h4 h5
  rw [lit_bs, one_S, S_append]; unfold encS enc; rw [if_neg (by rw [enc_no h1 h2]; decide), if_neg h3, if_neg h4, if_neg h5]; rfl
end
/-- the first sign of a name -/
def fst1 (n : Nat) : List Nat := if 48 ≤ n ∧ n ≤ 57 then [92, 51, n, 32] else enc n
/-- a name's text -/
def idn : List Nat → List Nat
  | [] => []
  | 45 :: r => match r with
    | [] => [92, 45]
    | c :: r => if c = 45 then 45 :: 45 :: encN r else 45 :: fst1 c ++ encN r
  | c :: r => fst1 c ++ encN r
def letC (n : Nat) : Bool := (65 ≤ n && n ≤ 90) || (97 ≤ n && n ≤ 122) || n == 95
def figC (n : Nat) : Bool := 48 ≤ n && n ≤ 57
theorem letC_hi (k : Nat) (h : 128 ≤ k) : letC k = false := by simp [letC]; lia
theorem figC_hi (k : Nat) (h : 128 ≤ k) : figC k = false := by simp [figC]; lia
theorem lit_let (k : Nat) : (!(Builtin.Str.occurrences (Str.ofString "abcdefghijklmnopqrstuvwxyz_ABCDEFGHIJKLMNOPQRSTUVWXYZ") (S [k]) 0 (Str.ofString "abcdefghijklmnopqrstuvwxyz_ABCDEFGHIJKLMNOPQRSTUVWXYZ").length 1).isEmpty) = letC k := by
  rw [← one_S2, StrLaws.found_one]; exact mem_small (by decide +kernel) (by decide +kernel) letC_hi k
theorem lit_fig (k : Nat) : (!(Builtin.Str.occurrences (Str.ofString "0123456789") (S [k]) 0 (Str.ofString "0123456789").length 1).isEmpty) = figC k := by
  rw [← one_S2, StrLaws.found_one]; exact mem_small (by decide +kernel) (by decide +kernel) figC_hi k
theorem hex_fig : ∀ k : Nat, figC k = true → hexN k = [51, k] := by
  have : ∀ k : Nat, k < 58 → figC k = true → hexN k = [51, k] := by decide +kernel
  intro k h
  exact this k (by simp [figC] at h; lia) h
section
variable {c : Nat}
theorem fst_1 (h : letC c = true) : fst1 c = [c] := by
  have : plainC c = true := by simp [letC] at h; simp [plainC]; lia
  have h' : ¬ (48 ≤ c ∧ c ≤ 57) := by simp [letC] at h; lia
  simp [fst1, enc, this, h']
theorem fst_2 (h : decide ((127 : Int) < (c : Nat)) = true) : fst1 c = [c] := by
  have h2 : 127 < c := by simp at h; lia
  have h' : ¬ (48 ≤ c ∧ c ≤ 57) := by lia
  simp [fst1, enc, h2, h']
theorem fst_3 (h : c = 10) : fst1 c = [92, 65, 32] := by subst h; decide
theorem fst_4 (h : c = 13) : fst1 c = [92, 68, 32] := by subst h; decide
theorem fst_5 (h : c = 12) : fst1 c = [92, 67, 32] := by subst h; decide
theorem fst_6 (h : figC c = true) : fst1 c = 92 :: hexN c ++ [32] := by
  rw [hex_fig c h]; simp [figC] at h; simp [fst1, h]
theorem fst_7 (h0 : c ≠ 45) (h1 : ¬ letC c = true) (h2 : ¬ decide ((127 : Int) < (c : Nat)) = true) (h3 : c ≠ 10) (h4 : c ≠ 13) (h5 : c ≠ 12) (h6 : ¬ figC c = true) : fst1 c = [92, c] := by
  have : plainC c = false := by
    have a : (plainC c = true) → False := by
      intro h
      simp [letC] at h1; simp [figC] at h6; simp [plainC] at h; lia
    simpa using a
  have h2' : ¬ 127 < c := by simp at h2; lia
  have h' : ¬ (48 ≤ c ∧ c ≤ 57) := by simp [figC] at h6; lia
  simp [fst1, enc, this, h2', h', h3, h4, h5]
end
/-- one sign of a name as the law spells it -/
def spP (b : Bool) (k : Nat) : List Nat := if figC k && b then [92, 51, k, 32] else enc k
def spT (l : List Nat) (i : Nat) : List Nat := (List.range i).flatMap fun j => spP (decide (j = 0) || decide (l.take j = [45])) (l.getD j 0)
theorem spT_succ (l : List Nat) (i : Nat) (hi : i < l.length) : spT l (i + 1) = spT l i ++ spP (decide (i = 0) || decide (l.take i = [45])) l[i] := by
  unfold spT
  rw [List.range_succ, List.flatMap_append]
  simp [hi]
theorem fst1_P (k : Nat) : fst1 k = spP true k := by
  unfold fst1 spP figC; simp
theorem encP (k : Nat) : spP false k = enc k := by simp [spP]
theorem flatMap_idx (f : Nat → List Nat) : ∀ (l : List Nat), (List.range l.length).flatMap (fun j => f (l.getD j 0)) = l.flatMap f
  | [] => rfl
  | a :: r => by
    rw [List.length_cons, List.range_succ_eq_map, List.flatMap_cons, List.flatMap_map, List.flatMap_cons]
    have := flatMap_idx f r
    simp only [List.getD_cons_zero, List.getD_cons_succ]
    rw [this]
theorem spT_all (l : List Nat) (h0 : l ≠ []) (h1 : l ≠ [45]) : spT l l.length = idn l := by
  match l, h0, h1 with
  | [a], _, h1 =>
    have : a ≠ 45 := fun e => h1 (by rw [e])
    have e : idn [a] = fst1 a ++ encN [] := by
      unfold idn; split
      · rename_i h; cases h
      · rename_i h; cases h; exact absurd rfl this
      · rename_i h; cases h; rfl
    rw [e, fst1_P]; simp [spT, encN]
  | a :: c :: r, _, _ =>
    have hl : (a :: c :: r).length = r.length + 2 := rfl
    have e2 : spT (a :: c :: r) (r.length + 2) = spP true a ++ (spP (decide (a = 45)) c ++ encN r) := by
      unfold spT
      rw [List.range_succ_eq_map, List.flatMap_cons, List.flatMap_map, List.range_succ_eq_map, List.flatMap_cons, List.flatMap_map]
      congr 1
      congr 1
      · simp
      · rw [encN, ← flatMap_idx enc r]
        refine congrArg (fun f => List.flatMap f (List.range r.length)) (funext fun j => ?_)
        simp [encP]
    rw [hl, e2]
    by_cases ha : a = 45
    · subst ha
      by_cases hc : c = 45
      · subst hc
        have e3 : spP true 45 = [45] := by decide
        have e4 : spP (decide ((45 : Nat) = 45)) 45 = [45] := by decide
        rw [e3, e4]; simp [idn]
      · have e3 : spP true 45 = [45] := by decide
        rw [e3]; simp [idn, hc, fst1_P]
    · have e : idn (a :: c :: r) = fst1 a ++ encN (c :: r) := by
        unfold idn; split
        · rename_i h; cases h
        · rename_i h; cases h; exact absurd rfl ha
        · rename_i h; cases h; rfl
      rw [e, fst1_P]; simp [ha, encP, encN]
theorem spP_len (b : Bool) (k : Nat) : (spP b k).length ≤ 4 := by unfold spP; split; simp; have := (enc_len k).2; lia
theorem spT_len (l : List Nat) (i : Nat) : (spT l i).length ≤ 4 * i := by
  induction i with
  | zero => simp [spT]
  | succ i ih =>
    unfold spT at *
    rw [List.range_succ, List.flatMap_append, List.length_append]
    have := spP_len (decide (i = 0) || decide (l.take i = [45])) (l.getD i 0)
    simp at *
    lia
abbrev GW (w : World) (g0 : Heap) (P : Addr) : Prop := Gd (KF w.params) g0 P
/-- the text of a name, sign by sign -/
theorem c_name {g0 : Heap} {P : Addr} {w : World} {A : Around} {s : Shared} {n : Nat} {Q : Value → Shared → Prop} (G : GW w g0 P) (I : Inv g0 P s) (r : Rm A (n + 1)) {x : Str} {t : Tok} (hx : x.length ≤ 1048576)
    (h : ∀ t' s', Pres P [] s s' → Inv g0 P s' → Q (.str (S (encN x.cps.toList)) t') s') : wpAny (model PG w) A (call (.ref 35) [.str x t]) Q NoE s := by
  refine' enter (binds := [("value", .str x t)]) (m := [("value", .str x t)]) (Ds := []) G I r [] (by simp) (by simp) ?ho ?hcd ?hbind ?hm ?hDs ?body ?hloc ?hcell ?hco ?hgen ?hk
  walk_at "in"
  intro c φ s₁ e1 e2 e3 eD hφ H r; subst e1 e2 e3
  repeat walk_at "s"
  refine' r_genjoin (pc := encS) G rfl (by assumption) (r.less (Nat.le_refl _)) hx ?hok ?hit ?hE ?hQ ?hco2 ?hclos ?hcell2 ?h0 ?hx2 ?hkind ?hs
  case hco2 => rfl
  case hclos => with_unfolding_all rfl
  case hcell2 => kernel_rfl!
  case h0 => kernel_rfl!
  case hx2 => kernel_rfl!
  case hkind => rfl
  case hs => intro _; with_unfolding_all rfl
  case hit => intro Q' hq; exact r_loc (by assumption) (by walk_at "lk") hq
  case hok =>
    refine joinOk_of _ ?_
    rw [sum_encS]
    have := encN_len x.cps.toList
    have hl : x.cps.toList.length ≤ 1048576 := by simpa [Str.length] using hx
    have : sizeLine = 16777216 := by decide
    lia
  case hE =>
    intro A' E' k u s₂ C code m₂ hA hn hm hg
    repeat' (first | walk_at "g" | (refine ite_two ?_ ?_ <;> intro _))
    all_goals (simp only [lit_plain1, lit_lf, lit_cr, lit_ff, lit_eA, lit_eD, lit_eC] at *)
    all_goals first
      | exact ⟨⟨_, congrArg (fun z => Value.str z _) (enc_1 (by assumption))⟩, _, _, rfl, fun _ _ e => e⟩
      | exact ⟨⟨_, congrArg (fun z => Value.str z _) (enc_2 (by assumption))⟩, _, _, rfl, fun _ _ e => e⟩
      | exact ⟨⟨_, congrArg (fun z => Value.str z _) (enc_3 (by assumption) (by assumption) (by assumption))⟩, _, _, rfl, fun _ _ e => e⟩
      | exact ⟨⟨_, congrArg (fun z => Value.str z _) (enc_4 (by assumption) (by assumption) (by assumption) (by assumption))⟩, _, _, rfl, fun _ _ e => e⟩
      | exact ⟨⟨_, congrArg (fun z => Value.str z _) (enc_5 (by assumption) (by assumption) (by assumption) (by assumption) (by assumption))⟩, _, _, rfl, fun _ _ e => e⟩
      | (refine add_str (fun t' tk => ?_) (by have : sizeLine = 16777216 := by decide
                                              have : (Str.ofString "\\").length = 1 := by decide +kernel
                                              simp [Str.length] at *; omega)
         exact ⟨⟨_, congrArg (fun z => Value.str z _) (enc_6 (by assumption) (by assumption) (by assumption) (by assumption) (by assumption))⟩, _, _, rfl, fun _ _ e => e⟩)
  case hQ =>
    intro a s₅ H5 hj
    repeat walk_at "s"
    refine hj _ _ ?_
    intro t' s' H'
    have e : Txt.join (Str.ofString "") (x.cps.toList.map encS) = S (encN x.cps.toList) := by
      show Builtin.Str.glued _ _ = _
      rw [StrLaws.glued_eq_join, join_empty, List.flatMap_map]; rfl
    rw [e]
    exact h _ _ (H'.done eD) H'.inv
/-- some text of as many signs -/
theorem c_lower {g0 : Heap} {P : Addr} {w : World} {A : Around} {s : Shared} {n : Nat} {Q : Value → Shared → Prop} (G : GW w g0 P) (I : Inv g0 P s) (r : Rm A (n + 1)) {l : List Nat} {t : Tok} (hx : l.length ≤ 4096)
    (h : ∀ y t' s', Pres P [] s s' → Inv g0 P s' → Q (.str (S y) t') s') : wpAny (model PG w) A (call (.ref 54) [.str (S l) t]) Q NoE s := by
  refine' enter (binds := [("text", .str (S l) t)]) (m := [("text", .str (S l) t)]) (Ds := []) G I r [] (by simp) (by simp) ?ho ?hcd ?hbind ?hm ?hDs ?body ?hloc ?hcell ?hco ?hgen ?hk
  walk_at "in"
  intro c φ s₁ e1 e2 e3 eD hφ H r; subst e1 e2 e3
  repeat' (first | walk_at "s" | walk_at "call" | (refine ite_two ?_ ?_ <;> intro hc))
  refine comp_text (J := fun i vs => ∃ ps, Txts vs ps ∧ ps.flatten.length = i) r.hh (by assumption) ⟨[], Txts.nil, rfl⟩ (by lia) (by kernel_rfl!) rfl (by kernel_rfl!) ?_ ?_
  · intro i φ' m' R' s' u vs c' hi eg eP hJ hl H'
    have G' : GW w c'.g0 c'.P := by rw [eg, eP]; exact G
    obtain ⟨ps, hv, hp⟩ := hJ
    repeat' (first | walk_at "s" | walk_at "i" | (refine ite_two ?_ ?_ <;> intro hc))
    · have hk : l[i] ≤ 90 := by
        have := ‹(!decide ((Str.ofString "Z").cps.toList < (S [l[i]]).cps.toList)) = true›
        have e : (Str.ofString "Z").cps.toList = [90] := by decide +kernel
        rw [e] at this
        have this : (!decide ([90] < [l[i]])) = true := this
        rw [StrLaws.lt_cons_cons] at this
        simp at this
        lia
      repeat' (first | walk_at "s" | walk_at "i")
      exact ⟨⟨_, hv.snoc, by simp [hp]⟩, by assumption⟩
    all_goals exact ⟨⟨_, hv.snoc, by simp [hp]⟩, by assumption⟩
  · intro a o vs s2 ho hl hJ H2
    obtain ⟨ps, hv, hp⟩ := hJ
    have hz : ps.flatten.length ≤ 4096 := by lia
    repeat' (first | walk_at "s" | walk_at "call")
    exact h _ _ _ (St.done (by assumption) eD) (St.inv (by assumption))
theorem i_node {g0 : Heap} {P : Addr} {w : World} {A : Around} {s : Shared} {n : Nat} {Q : Value → Shared → Prop} (G : GW w g0 P) (I : Inv g0 P s) (r : Rm A (n + 1)) {x C dx : Addr} {v1 v2 : Value} {i1 i2 : Nat} {sl1 sl2 : List (Option Value)}
    (hx : s.heap.get? x = some (ins C dx #[])) (hdi : s.heap.get? dx = some emptyDict) (hxg : g0.objs.size ≤ x) (hdx : dx ≠ x) (hdP : dx ≠ P)
    (F1 : SetF (KF w.params) C "source_line" 89 i1) (F2 : SetF (KF w.params) C "source_column" 88 i2)
    (f1 : setL [] i1 (some v1) = sl1) (f2 : setL sl1 i2 (some v2) = sl2)
    (h : ∀ s', Pres P [x] s s' → Inv g0 P s' → s'.heap.get? x = some (ins C dx sl2.toArray) → Q .none s') : wpAny (model PG w) A (call (.ref 69) [.ref x, v1, v2]) Q NoE s := by
  refine' enter (binds := [("self", .ref x), ("source_line", v1), ("source_column", v2)]) (m := [("source_column", v2), ("source_line", v1), ("self", .ref x)]) (Ds := [x]) G I r [(x, ins C dx #[])] (by simpa using ⟨hx, hxg⟩) (by simp) ?ho ?hcd ?hbind ?hm ?hDs ?body ?hloc ?hcell ?hco ?hgen ?hk
  walk_at "in"
  intro c φ s₁ e1 e2 e3 eD hφ H r; subst e1 e2 e3
  have hdφ : φ dx = some emptyDict := (hφ _ _).mpr ⟨hdi, by simpa using hdx, hdP⟩
  repeat' (first
    | walk_at "s"
    | walk_at "call")
  exact h _ (St.done (by assumption) eD) (St.inv (by assumption)) (St.get (by assumption) 0 rfl)
theorem s_node {w : World} {A : Around} {c : Cx} {φ : Fz} {m : List (Str × Value)} {R : List (Addr × Obj)} {s : Shared} {n : Nat} {Q : Value → Shared → Prop} {x C dx : Addr} {v1 v2 : Value} {i1 i2 : Nat} {sl1 sl2 : List (Option Value)} (H : St c φ m ((x, ins C dx #[]) :: R) s) (G : GW w c.g0 c.P) (r : Rm A (n + 1)) (hdi : φ dx = some emptyDict)
    (F1 : SetF (KF w.params) C "source_line" 89 i1) (F2 : SetF (KF w.params) C "source_column" 88 i2)
    (f1 : setL [] i1 (some v1) = sl1) (f2 : setL sl1 i2 (some v2) = sl2)
    (h : ∀ s', St c φ m ((x, ins C dx sl2.toArray) :: R) s' → Q .none s') : wpAny (model PG w) A (call (.ref 69) [.ref x, v1, v2]) Q NoE s := by
  have L := H.led _ (.head _)
  refine i_node G H.inv r L.1 (H.fz _ _ hdi) L.2.2.2 (fun e => ?_) (fun e => ?_) F1 F2 f1 f2 fun s' p I hx => h s' (H.call1 0 rfl p I hx)
  · rw [e, L.2.1] at hdi; cases hdi
  · rw [e, H.Pφ] at hdi; cases hdi
theorem mk_ParseError {w : World} {A : Around} {c : Cx} {φ : Fz} {m : List (Str × Value)} {R : List (Addr × Obj)} {s : Shared} {n : Nat} {Q : Value → Shared → Prop} {v1 v2 : Value} {u0 : Value} {u1 : Value} (H : St c φ m R s) (G : GW w c.g0 c.P) (r : Rm A (n + 3)) 
    (h : ∀ x dx  s', St c φ m ((x, ins 117 dx #[some u0, some u1, some v2, some v1]) :: (dx, emptyDict) :: R) s' → Q (.ref x) s') : wpAny (model PG w) A (call (.ref 117) [v1, v2, u0, u1]) Q NoE s := by
  refine' r_make H G ?a ?b ?c ?_
  case a => k_is
  case b => k_is
  case c => k_is
  intro x dx s1 H1
  have H1 : St c φ m ((x, ins 117 dx #[]) :: (dx, emptyDict) :: R) s1 := H1
  have r1 : Rm (A.under (.builtin "type.__call__" ⟨.ref 117 :: [v1, v2, u0, u1], []⟩)) (n + 2) := r.make
  have L := H1.led _ (.head _)
  have Ld := H1.led _ (.tail _ (.head _))
  have hne : dx ≠ x := fun e => by have := H1.ord; simp [e] at this
  have hdP : dx ≠ c.P := fun e => absurd H1.Plt (Nat.not_lt.mpr (e ▸ Ld.2.2.2))
  refine' enterC (binds := [("self", .ref x), ("line", v1), ("column", v2), ("kind", u0), ("message", u1)]) (m := [("message", u1), ("kind", u0), ("column", v2), ("line", v1), ("self", .ref x)]) (Ds := [x]) G H1.inv r1 [(x, ins 117 dx #[])] (by simpa using ⟨L.1, L.2.2.2⟩) (by simp) ?ho ?hcd ?hbind ?hm ?hDs ?body ?hloc ?hcell ?hco ?hgen ?hk
  walk_at "in"
  intro c' φ' s₁ e1 e2 e3 eD hφ H r; subst e3
  have hdφ : φ' dx = some emptyDict := (hφ _ _).mpr ⟨Ld.1, by simpa using hne, hdP⟩
  have G' : GW w c'.g0 c'.P := by rw [e1, e2]; exact G
  have F1 : SetF (KF w.params) 117 "source_line" 89 3 := by walk_at "setf"
  have F2 : SetF (KF w.params) 117 "source_column" 88 2 := by walk_at "setf"
  repeat' (first
    | walk_at "s"
    | walk_at "call"
    | ((with_reducible show wpAny _ _ (call (Value.ref _) _) _ _ _); (show wpAny _ _ (call (Value.ref 69) _) _ _ _); (refine' s_node (n := 0) (by with_reducible assumption) G' (r.less (by lia)) hdφ F1 F2 ?f1 ?f2 ?_); (case f1 => simp only [setL]; with_reducible rfl); (case f2 => simp only [setL]; with_reducible rfl); intro _ _))
  have HH := ‹St c' φ' _ _ _›
  have pp := HH.done eD
  have ii := HH.inv
  rw [e2] at pp ii
  rw [e1] at ii
  exact ⟨rfl, h x dx _ (H1.call1 0 rfl pp ii (HH.get 0 rfl))⟩
theorem mk_White {w : World} {A : Around} {c : Cx} {φ : Fz} {m : List (Str × Value)} {R : List (Addr × Obj)} {s : Shared} {n : Nat} {Q : Value → Shared → Prop} {v1 v2 : Value} {u0 : Value} (H : St c φ m R s) (G : GW w c.g0 c.P) (r : Rm A (n + 3)) 
    (h : ∀ x dx  s', St c φ m ((x, ins 176 dx #[some u0, some v2, some v1]) :: (dx, emptyDict) :: R) s' → Q (.ref x) s') : wpAny (model PG w) A (call (.ref 176) [v1, v2, u0]) Q NoE s := by
  refine' r_make H G ?a ?b ?c ?_
  case a => k_is
  case b => k_is
  case c => k_is
  intro x dx s1 H1
  have H1 : St c φ m ((x, ins 176 dx #[]) :: (dx, emptyDict) :: R) s1 := H1
  have r1 : Rm (A.under (.builtin "type.__call__" ⟨.ref 176 :: [v1, v2, u0], []⟩)) (n + 2) := r.make
  have L := H1.led _ (.head _)
  have Ld := H1.led _ (.tail _ (.head _))
  have hne : dx ≠ x := fun e => by have := H1.ord; simp [e] at this
  have hdP : dx ≠ c.P := fun e => absurd H1.Plt (Nat.not_lt.mpr (e ▸ Ld.2.2.2))
  refine' enterC (binds := [("self", .ref x), ("line", v1), ("column", v2), ("value", u0)]) (m := [("value", u0), ("column", v2), ("line", v1), ("self", .ref x)]) (Ds := [x]) G H1.inv r1 [(x, ins 176 dx #[])] (by simpa using ⟨L.1, L.2.2.2⟩) (by simp) ?ho ?hcd ?hbind ?hm ?hDs ?body ?hloc ?hcell ?hco ?hgen ?hk
  walk_at "in"
  intro c' φ' s₁ e1 e2 e3 eD hφ H r; subst e3
  have hdφ : φ' dx = some emptyDict := (hφ _ _).mpr ⟨Ld.1, by simpa using hne, hdP⟩
  have G' : GW w c'.g0 c'.P := by rw [e1, e2]; exact G
  have F1 : SetF (KF w.params) 176 "source_line" 89 2 := by walk_at "setf"
  have F2 : SetF (KF w.params) 176 "source_column" 88 1 := by walk_at "setf"
  repeat' (first
    | walk_at "s"
    | walk_at "call"
    | ((with_reducible show wpAny _ _ (call (Value.ref _) _) _ _ _); (show wpAny _ _ (call (Value.ref 69) _) _ _ _); (refine' s_node (n := 0) (by with_reducible assumption) G' (r.less (by lia)) hdφ F1 F2 ?f1 ?f2 ?_); (case f1 => simp only [setL]; with_reducible rfl); (case f2 => simp only [setL]; with_reducible rfl); intro _ _))
  have HH := ‹St c' φ' _ _ _›
  have pp := HH.done eD
  have ii := HH.inv
  rw [e2] at pp ii
  rw [e1] at ii
  exact ⟨rfl, h x dx _ (H1.call1 0 rfl pp ii (HH.get 0 rfl))⟩
theorem mk_Hash {w : World} {A : Around} {c : Cx} {φ : Fz} {m : List (Str × Value)} {R : List (Addr × Obj)} {s : Shared} {n : Nat} {Q : Value → Shared → Prop} {v1 v2 : Value} {u0 : Value} {u1 : Value} (H : St c φ m R s) (G : GW w c.g0 c.P) (r : Rm A (n + 3)) 
    (h : ∀ x dx  s', St c φ m ((x, ins 308 dx #[some u1, some u0, some v2, some v1]) :: (dx, emptyDict) :: R) s' → Q (.ref x) s') : wpAny (model PG w) A (call (.ref 308) [v1, v2, u0, u1]) Q NoE s := by
  refine' r_make H G ?a ?b ?c ?_
  case a => k_is
  case b => k_is
  case c => k_is
  intro x dx s1 H1
  have H1 : St c φ m ((x, ins 308 dx #[]) :: (dx, emptyDict) :: R) s1 := H1
  have r1 : Rm (A.under (.builtin "type.__call__" ⟨.ref 308 :: [v1, v2, u0, u1], []⟩)) (n + 2) := r.make
  have L := H1.led _ (.head _)
  have Ld := H1.led _ (.tail _ (.head _))
  have hne : dx ≠ x := fun e => by have := H1.ord; simp [e] at this
  have hdP : dx ≠ c.P := fun e => absurd H1.Plt (Nat.not_lt.mpr (e ▸ Ld.2.2.2))
  refine' enterC (binds := [("self", .ref x), ("line", v1), ("column", v2), ("value", u0), ("is_identifier", u1)]) (m := [("is_identifier", u1), ("value", u0), ("column", v2), ("line", v1), ("self", .ref x)]) (Ds := [x]) G H1.inv r1 [(x, ins 308 dx #[])] (by simpa using ⟨L.1, L.2.2.2⟩) (by simp) ?ho ?hcd ?hbind ?hm ?hDs ?body ?hloc ?hcell ?hco ?hgen ?hk
  walk_at "in"
  intro c' φ' s₁ e1 e2 e3 eD hφ H r; subst e3
  have hdφ : φ' dx = some emptyDict := (hφ _ _).mpr ⟨Ld.1, by simpa using hne, hdP⟩
  have G' : GW w c'.g0 c'.P := by rw [e1, e2]; exact G
  have F1 : SetF (KF w.params) 308 "source_line" 89 3 := by walk_at "setf"
  have F2 : SetF (KF w.params) 308 "source_column" 88 2 := by walk_at "setf"
  repeat' (first
    | walk_at "s"
    | walk_at "call"
    | ((with_reducible show wpAny _ _ (call (Value.ref _) _) _ _ _); (show wpAny _ _ (call (Value.ref 69) _) _ _ _); (refine' s_node (n := 0) (by with_reducible assumption) G' (r.less (by lia)) hdφ F1 F2 ?f1 ?f2 ?_); (case f1 => simp only [setL]; with_reducible rfl); (case f2 => simp only [setL]; with_reducible rfl); intro _ _))
  have HH := ‹St c' φ' _ _ _›
  have pp := HH.done eD
  have ii := HH.inv
  rw [e2] at pp ii
  rw [e1] at ii
  exact ⟨rfl, h x dx _ (H1.call1 0 rfl pp ii (HH.get 0 rfl))⟩
theorem mk_Comment {w : World} {A : Around} {c : Cx} {φ : Fz} {m : List (Str × Value)} {R : List (Addr × Obj)} {s : Shared} {n : Nat} {Q : Value → Shared → Prop} {v1 v2 : Value} {u0 : Value} (H : St c φ m R s) (G : GW w c.g0 c.P) (r : Rm A (n + 3)) 
    (h : ∀ x dx  s', St c φ m ((x, ins 147 dx #[some u0, some v2, some v1]) :: (dx, emptyDict) :: R) s' → Q (.ref x) s') : wpAny (model PG w) A (call (.ref 147) [v1, v2, u0]) Q NoE s := by
  refine' r_make H G ?a ?b ?c ?_
  case a => k_is
  case b => k_is
  case c => k_is
  intro x dx s1 H1
  have H1 : St c φ m ((x, ins 147 dx #[]) :: (dx, emptyDict) :: R) s1 := H1
  have r1 : Rm (A.under (.builtin "type.__call__" ⟨.ref 147 :: [v1, v2, u0], []⟩)) (n + 2) := r.make
  have L := H1.led _ (.head _)
  have Ld := H1.led _ (.tail _ (.head _))
  have hne : dx ≠ x := fun e => by have := H1.ord; simp [e] at this
  have hdP : dx ≠ c.P := fun e => absurd H1.Plt (Nat.not_lt.mpr (e ▸ Ld.2.2.2))
  refine' enterC (binds := [("self", .ref x), ("line", v1), ("column", v2), ("value", u0)]) (m := [("value", u0), ("column", v2), ("line", v1), ("self", .ref x)]) (Ds := [x]) G H1.inv r1 [(x, ins 147 dx #[])] (by simpa using ⟨L.1, L.2.2.2⟩) (by simp) ?ho ?hcd ?hbind ?hm ?hDs ?body ?hloc ?hcell ?hco ?hgen ?hk
  walk_at "in"
  intro c' φ' s₁ e1 e2 e3 eD hφ H r; subst e3
  have hdφ : φ' dx = some emptyDict := (hφ _ _).mpr ⟨Ld.1, by simpa using hne, hdP⟩
  have G' : GW w c'.g0 c'.P := by rw [e1, e2]; exact G
  have F1 : SetF (KF w.params) 147 "source_line" 89 2 := by walk_at "setf"
  have F2 : SetF (KF w.params) 147 "source_column" 88 1 := by walk_at "setf"
  repeat' (first
    | walk_at "s"
    | walk_at "call"
    | ((with_reducible show wpAny _ _ (call (Value.ref _) _) _ _ _); (show wpAny _ _ (call (Value.ref 69) _) _ _ _); (refine' s_node (n := 0) (by with_reducible assumption) G' (r.less (by lia)) hdφ F1 F2 ?f1 ?f2 ?_); (case f1 => simp only [setL]; with_reducible rfl); (case f2 => simp only [setL]; with_reducible rfl); intro _ _))
  have HH := ‹St c' φ' _ _ _›
  have pp := HH.done eD
  have ii := HH.inv
  rw [e2] at pp ii
  rw [e1] at ii
  exact ⟨rfl, h x dx _ (H1.call1 0 rfl pp ii (HH.get 0 rfl))⟩
theorem mk_Literal {w : World} {A : Around} {c : Cx} {φ : Fz} {m : List (Str × Value)} {R : List (Addr × Obj)} {s : Shared} {n : Nat} {Q : Value → Shared → Prop} {v1 v2 : Value} {u0 : Value} (H : St c φ m R s) (G : GW w c.g0 c.P) (r : Rm A (n + 3)) 
    (h : ∀ x dx  s', St c φ m ((x, ins 219 dx #[some u0, some v2, some v1]) :: (dx, emptyDict) :: R) s' → Q (.ref x) s') : wpAny (model PG w) A (call (.ref 219) [v1, v2, u0]) Q NoE s := by
  refine' r_make H G ?a ?b ?c ?_
  case a => k_is
  case b => k_is
  case c => k_is
  intro x dx s1 H1
  have H1 : St c φ m ((x, ins 219 dx #[]) :: (dx, emptyDict) :: R) s1 := H1
  have r1 : Rm (A.under (.builtin "type.__call__" ⟨.ref 219 :: [v1, v2, u0], []⟩)) (n + 2) := r.make
  have L := H1.led _ (.head _)
  have Ld := H1.led _ (.tail _ (.head _))
  have hne : dx ≠ x := fun e => by have := H1.ord; simp [e] at this
  have hdP : dx ≠ c.P := fun e => absurd H1.Plt (Nat.not_lt.mpr (e ▸ Ld.2.2.2))
  refine' enterC (binds := [("self", .ref x), ("line", v1), ("column", v2), ("value", u0)]) (m := [("value", u0), ("column", v2), ("line", v1), ("self", .ref x)]) (Ds := [x]) G H1.inv r1 [(x, ins 219 dx #[])] (by simpa using ⟨L.1, L.2.2.2⟩) (by simp) ?ho ?hcd ?hbind ?hm ?hDs ?body ?hloc ?hcell ?hco ?hgen ?hk
  walk_at "in"
  intro c' φ' s₁ e1 e2 e3 eD hφ H r; subst e3
  have hdφ : φ' dx = some emptyDict := (hφ _ _).mpr ⟨Ld.1, by simpa using hne, hdP⟩
  have G' : GW w c'.g0 c'.P := by rw [e1, e2]; exact G
  have F1 : SetF (KF w.params) 219 "source_line" 89 2 := by walk_at "setf"
  have F2 : SetF (KF w.params) 219 "source_column" 88 1 := by walk_at "setf"
  repeat' (first
    | walk_at "s"
    | walk_at "call"
    | ((with_reducible show wpAny _ _ (call (Value.ref _) _) _ _ _); (show wpAny _ _ (call (Value.ref 69) _) _ _ _); (refine' s_node (n := 0) (by with_reducible assumption) G' (r.less (by lia)) hdφ F1 F2 ?f1 ?f2 ?_); (case f1 => simp only [setL]; with_reducible rfl); (case f2 => simp only [setL]; with_reducible rfl); intro _ _))
  have HH := ‹St c' φ' _ _ _›
  have pp := HH.done eD
  have ii := HH.inv
  rw [e2] at pp ii
  rw [e1] at ii
  exact ⟨rfl, h x dx _ (H1.call1 0 rfl pp ii (HH.get 0 rfl))⟩
theorem mk_Ident {w : World} {A : Around} {c : Cx} {φ : Fz} {m : List (Str × Value)} {R : List (Addr × Obj)} {s : Shared} {n : Nat} {Q : Value → Shared → Prop} {v1 v2 : Value} {l0 : List Nat} {t0 : Tok} (H : St c φ m R s) (G : GW w c.g0 c.P) (r : Rm A (n + 3)) (hl : l0.length ≤ 4096)
    (h : ∀ x dx (y : List Nat) (ty : Tok) s', St c φ m ((x, ins 248 dx #[some (.str (S y) ty), some (.str (S l0) t0), some v2, some v1]) :: (dx, emptyDict) :: R) s' → Q (.ref x) s') : wpAny (model PG w) A (call (.ref 248) [v1, v2, .str (S l0) t0]) Q NoE s := by
  refine' r_make H G ?a ?b ?c ?_
  case a => k_is
  case b => k_is
  case c => k_is
  intro x dx s1 H1
  have H1 : St c φ m ((x, ins 248 dx #[]) :: (dx, emptyDict) :: R) s1 := H1
  have r1 : Rm (A.under (.builtin "type.__call__" ⟨.ref 248 :: [v1, v2, .str (S l0) t0], []⟩)) (n + 2) := r.make
  have L := H1.led _ (.head _)
  have Ld := H1.led _ (.tail _ (.head _))
  have hne : dx ≠ x := fun e => by have := H1.ord; simp [e] at this
  have hdP : dx ≠ c.P := fun e => absurd H1.Plt (Nat.not_lt.mpr (e ▸ Ld.2.2.2))
  refine' enterC (binds := [("self", .ref x), ("line", v1), ("column", v2), ("value", .str (S l0) t0)]) (m := [("value", .str (S l0) t0), ("column", v2), ("line", v1), ("self", .ref x)]) (Ds := [x]) G H1.inv r1 [(x, ins 248 dx #[])] (by simpa using ⟨L.1, L.2.2.2⟩) (by simp) ?ho ?hcd ?hbind ?hm ?hDs ?body ?hloc ?hcell ?hco ?hgen ?hk
  walk_at "in"
  intro c' φ' s₁ e1 e2 e3 eD hφ H r; subst e3
  have hdφ : φ' dx = some emptyDict := (hφ _ _).mpr ⟨Ld.1, by simpa using hne, hdP⟩
  have G' : GW w c'.g0 c'.P := by rw [e1, e2]; exact G
  have F1 : SetF (KF w.params) 248 "source_line" 89 3 := by walk_at "setf"
  have F2 : SetF (KF w.params) 248 "source_column" 88 2 := by walk_at "setf"
  repeat' (first
    | walk_at "s"
    | walk_at "call"
    | ((with_reducible show wpAny _ _ (call (Value.ref _) _) _ _ _); (show wpAny _ _ (call (Value.ref 69) _) _ _ _); (refine' s_node (n := 0) (by with_reducible assumption) G' (r.less (by lia)) hdφ F1 F2 ?f1 ?f2 ?_); (case f1 => simp only [setL]; with_reducible rfl); (case f2 => simp only [setL]; with_reducible rfl); intro _ _)
    | ((with_reducible show wpAny _ _ (call (Value.ref _) _) _ _ _); (show wpAny _ _ (call (Value.ref 54) _) _ _ _); (refine c_lower (n := 0) G' (St.inv (by with_reducible assumption)) (r.less (by lia)) hl ?_); intro y t' s' p I; have H' := St.call0 (by with_reducible assumption) p I))
  have HH := ‹St c' φ' _ _ _›
  have pp := HH.done eD
  have ii := HH.inv
  rw [e2] at pp ii
  rw [e1] at ii
  exact ⟨rfl, h x dx _ _ _ (H1.call1 0 rfl pp ii (HH.get 0 rfl))⟩
theorem mk_AtKeyword {w : World} {A : Around} {c : Cx} {φ : Fz} {m : List (Str × Value)} {R : List (Addr × Obj)} {s : Shared} {n : Nat} {Q : Value → Shared → Prop} {v1 v2 : Value} {l0 : List Nat} {t0 : Tok} (H : St c φ m R s) (G : GW w c.g0 c.P) (r : Rm A (n + 3)) (hl : l0.length ≤ 4096)
    (h : ∀ x dx (y : List Nat) (ty : Tok) s', St c φ m ((x, ins 278 dx #[some (.str (S y) ty), some (.str (S l0) t0), some v2, some v1]) :: (dx, emptyDict) :: R) s' → Q (.ref x) s') : wpAny (model PG w) A (call (.ref 278) [v1, v2, .str (S l0) t0]) Q NoE s := by
  refine' r_make H G ?a ?b ?c ?_
  case a => k_is
  case b => k_is
  case c => k_is
  intro x dx s1 H1
  have H1 : St c φ m ((x, ins 278 dx #[]) :: (dx, emptyDict) :: R) s1 := H1
  have r1 : Rm (A.under (.builtin "type.__call__" ⟨.ref 278 :: [v1, v2, .str (S l0) t0], []⟩)) (n + 2) := r.make
  have L := H1.led _ (.head _)
  have Ld := H1.led _ (.tail _ (.head _))
  have hne : dx ≠ x := fun e => by have := H1.ord; simp [e] at this
  have hdP : dx ≠ c.P := fun e => absurd H1.Plt (Nat.not_lt.mpr (e ▸ Ld.2.2.2))
  refine' enterC (binds := [("self", .ref x), ("line", v1), ("column", v2), ("value", .str (S l0) t0)]) (m := [("value", .str (S l0) t0), ("column", v2), ("line", v1), ("self", .ref x)]) (Ds := [x]) G H1.inv r1 [(x, ins 278 dx #[])] (by simpa using ⟨L.1, L.2.2.2⟩) (by simp) ?ho ?hcd ?hbind ?hm ?hDs ?body ?hloc ?hcell ?hco ?hgen ?hk
  walk_at "in"
  intro c' φ' s₁ e1 e2 e3 eD hφ H r; subst e3
  have hdφ : φ' dx = some emptyDict := (hφ _ _).mpr ⟨Ld.1, by simpa using hne, hdP⟩
  have G' : GW w c'.g0 c'.P := by rw [e1, e2]; exact G
  have F1 : SetF (KF w.params) 278 "source_line" 89 3 := by walk_at "setf"
  have F2 : SetF (KF w.params) 278 "source_column" 88 2 := by walk_at "setf"
  repeat' (first
    | walk_at "s"
    | walk_at "call"
    | ((with_reducible show wpAny _ _ (call (Value.ref _) _) _ _ _); (show wpAny _ _ (call (Value.ref 69) _) _ _ _); (refine' s_node (n := 0) (by with_reducible assumption) G' (r.less (by lia)) hdφ F1 F2 ?f1 ?f2 ?_); (case f1 => simp only [setL]; with_reducible rfl); (case f2 => simp only [setL]; with_reducible rfl); intro _ _)
    | ((with_reducible show wpAny _ _ (call (Value.ref _) _) _ _ _); (show wpAny _ _ (call (Value.ref 54) _) _ _ _); (refine c_lower (n := 0) G' (St.inv (by with_reducible assumption)) (r.less (by lia)) hl ?_); intro y t' s' p I; have H' := St.call0 (by with_reducible assumption) p I))
  have HH := ‹St c' φ' _ _ _›
  have pp := HH.done eD
  have ii := HH.inv
  rw [e2] at pp ii
  rw [e1] at ii
  exact ⟨rfl, h x dx _ _ _ (H1.call1 0 rfl pp ii (HH.get 0 rfl))⟩
theorem mk_String {w : World} {A : Around} {c : Cx} {φ : Fz} {m : List (Str × Value)} {R : List (Addr × Obj)} {s : Shared} {n : Nat} {Q : Value → Shared → Prop} {v1 v2 : Value} {u0 : Value} {u1 : Value} (H : St c φ m R s) (G : GW w c.g0 c.P) (r : Rm A (n + 3)) 
    (h : ∀ x dx  s', St c φ m ((x, ins 338 dx #[some u1, some u0, some v2, some v1]) :: (dx, emptyDict) :: R) s' → Q (.ref x) s') : wpAny (model PG w) A (call (.ref 338) [v1, v2, u0, u1]) Q NoE s := by
  refine' r_make H G ?a ?b ?c ?_
  case a => k_is
  case b => k_is
  case c => k_is
  intro x dx s1 H1
  have H1 : St c φ m ((x, ins 338 dx #[]) :: (dx, emptyDict) :: R) s1 := H1
  have r1 : Rm (A.under (.builtin "type.__call__" ⟨.ref 338 :: [v1, v2, u0, u1], []⟩)) (n + 2) := r.make
  have L := H1.led _ (.head _)
  have Ld := H1.led _ (.tail _ (.head _))
  have hne : dx ≠ x := fun e => by have := H1.ord; simp [e] at this
  have hdP : dx ≠ c.P := fun e => absurd H1.Plt (Nat.not_lt.mpr (e ▸ Ld.2.2.2))
  refine' enterC (binds := [("self", .ref x), ("line", v1), ("column", v2), ("value", u0), ("representation", u1)]) (m := [("representation", u1), ("value", u0), ("column", v2), ("line", v1), ("self", .ref x)]) (Ds := [x]) G H1.inv r1 [(x, ins 338 dx #[])] (by simpa using ⟨L.1, L.2.2.2⟩) (by simp) ?ho ?hcd ?hbind ?hm ?hDs ?body ?hloc ?hcell ?hco ?hgen ?hk
  walk_at "in"
  intro c' φ' s₁ e1 e2 e3 eD hφ H r; subst e3
  have hdφ : φ' dx = some emptyDict := (hφ _ _).mpr ⟨Ld.1, by simpa using hne, hdP⟩
  have G' : GW w c'.g0 c'.P := by rw [e1, e2]; exact G
  have F1 : SetF (KF w.params) 338 "source_line" 89 3 := by walk_at "setf"
  have F2 : SetF (KF w.params) 338 "source_column" 88 2 := by walk_at "setf"
  repeat' (first
    | walk_at "s"
    | walk_at "call"
    | ((with_reducible show wpAny _ _ (call (Value.ref _) _) _ _ _); (show wpAny _ _ (call (Value.ref 69) _) _ _ _); (refine' s_node (n := 0) (by with_reducible assumption) G' (r.less (by lia)) hdφ F1 F2 ?f1 ?f2 ?_); (case f1 => simp only [setL]; with_reducible rfl); (case f2 => simp only [setL]; with_reducible rfl); intro _ _))
  have HH := ‹St c' φ' _ _ _›
  have pp := HH.done eD
  have ii := HH.inv
  rw [e2] at pp ii
  rw [e1] at ii
  exact ⟨rfl, h x dx _ (H1.call1 0 rfl pp ii (HH.get 0 rfl))⟩
theorem mk_URL {w : World} {A : Around} {c : Cx} {φ : Fz} {m : List (Str × Value)} {R : List (Addr × Obj)} {s : Shared} {n : Nat} {Q : Value → Shared → Prop} {v1 v2 : Value} {u0 : Value} {u1 : Value} (H : St c φ m R s) (G : GW w c.g0 c.P) (r : Rm A (n + 3)) 
    (h : ∀ x dx  s', St c φ m ((x, ins 368 dx #[some u1, some u0, some v2, some v1]) :: (dx, emptyDict) :: R) s' → Q (.ref x) s') : wpAny (model PG w) A (call (.ref 368) [v1, v2, u0, u1]) Q NoE s := by
  refine' r_make H G ?a ?b ?c ?_
  case a => k_is
  case b => k_is
  case c => k_is
  intro x dx s1 H1
  have H1 : St c φ m ((x, ins 368 dx #[]) :: (dx, emptyDict) :: R) s1 := H1
  have r1 : Rm (A.under (.builtin "type.__call__" ⟨.ref 368 :: [v1, v2, u0, u1], []⟩)) (n + 2) := r.make
  have L := H1.led _ (.head _)
  have Ld := H1.led _ (.tail _ (.head _))
  have hne : dx ≠ x := fun e => by have := H1.ord; simp [e] at this
  have hdP : dx ≠ c.P := fun e => absurd H1.Plt (Nat.not_lt.mpr (e ▸ Ld.2.2.2))
  refine' enterC (binds := [("self", .ref x), ("line", v1), ("column", v2), ("value", u0), ("representation", u1)]) (m := [("representation", u1), ("value", u0), ("column", v2), ("line", v1), ("self", .ref x)]) (Ds := [x]) G H1.inv r1 [(x, ins 368 dx #[])] (by simpa using ⟨L.1, L.2.2.2⟩) (by simp) ?ho ?hcd ?hbind ?hm ?hDs ?body ?hloc ?hcell ?hco ?hgen ?hk
  walk_at "in"
  intro c' φ' s₁ e1 e2 e3 eD hφ H r; subst e3
  have hdφ : φ' dx = some emptyDict := (hφ _ _).mpr ⟨Ld.1, by simpa using hne, hdP⟩
  have G' : GW w c'.g0 c'.P := by rw [e1, e2]; exact G
  have F1 : SetF (KF w.params) 368 "source_line" 89 3 := by walk_at "setf"
  have F2 : SetF (KF w.params) 368 "source_column" 88 2 := by walk_at "setf"
  repeat' (first
    | walk_at "s"
    | walk_at "call"
    | ((with_reducible show wpAny _ _ (call (Value.ref _) _) _ _ _); (show wpAny _ _ (call (Value.ref 69) _) _ _ _); (refine' s_node (n := 0) (by with_reducible assumption) G' (r.less (by lia)) hdφ F1 F2 ?f1 ?f2 ?_); (case f1 => simp only [setL]; with_reducible rfl); (case f2 => simp only [setL]; with_reducible rfl); intro _ _))
  have HH := ‹St c' φ' _ _ _›
  have pp := HH.done eD
  have ii := HH.inv
  rw [e2] at pp ii
  rw [e1] at ii
  exact ⟨rfl, h x dx _ (H1.call1 0 rfl pp ii (HH.get 0 rfl))⟩
theorem mk_Range {w : World} {A : Around} {c : Cx} {φ : Fz} {m : List (Str × Value)} {R : List (Addr × Obj)} {s : Shared} {n : Nat} {Q : Value → Shared → Prop} {v1 v2 : Value} {u0 : Value} {u1 : Value} (H : St c φ m R s) (G : GW w c.g0 c.P) (r : Rm A (n + 3)) 
    (h : ∀ x dx  s', St c φ m ((x, ins 398 dx #[some u1, some u0, some v2, some v1]) :: (dx, emptyDict) :: R) s' → Q (.ref x) s') : wpAny (model PG w) A (call (.ref 398) [v1, v2, u0, u1]) Q NoE s := by
  refine' r_make H G ?a ?b ?c ?_
  case a => k_is
  case b => k_is
  case c => k_is
  intro x dx s1 H1
  have H1 : St c φ m ((x, ins 398 dx #[]) :: (dx, emptyDict) :: R) s1 := H1
  have r1 : Rm (A.under (.builtin "type.__call__" ⟨.ref 398 :: [v1, v2, u0, u1], []⟩)) (n + 2) := r.make
  have L := H1.led _ (.head _)
  have Ld := H1.led _ (.tail _ (.head _))
  have hne : dx ≠ x := fun e => by have := H1.ord; simp [e] at this
  have hdP : dx ≠ c.P := fun e => absurd H1.Plt (Nat.not_lt.mpr (e ▸ Ld.2.2.2))
  refine' enterC (binds := [("self", .ref x), ("line", v1), ("column", v2), ("start", u0), ("end", u1)]) (m := [("end", u1), ("start", u0), ("column", v2), ("line", v1), ("self", .ref x)]) (Ds := [x]) G H1.inv r1 [(x, ins 398 dx #[])] (by simpa using ⟨L.1, L.2.2.2⟩) (by simp) ?ho ?hcd ?hbind ?hm ?hDs ?body ?hloc ?hcell ?hco ?hgen ?hk
  walk_at "in"
  intro c' φ' s₁ e1 e2 e3 eD hφ H r; subst e3
  have hdφ : φ' dx = some emptyDict := (hφ _ _).mpr ⟨Ld.1, by simpa using hne, hdP⟩
  have G' : GW w c'.g0 c'.P := by rw [e1, e2]; exact G
  have F1 : SetF (KF w.params) 398 "source_line" 89 3 := by walk_at "setf"
  have F2 : SetF (KF w.params) 398 "source_column" 88 2 := by walk_at "setf"
  repeat' (first
    | walk_at "s"
    | walk_at "call"
    | ((with_reducible show wpAny _ _ (call (Value.ref _) _) _ _ _); (show wpAny _ _ (call (Value.ref 69) _) _ _ _); (refine' s_node (n := 0) (by with_reducible assumption) G' (r.less (by lia)) hdφ F1 F2 ?f1 ?f2 ?_); (case f1 => simp only [setL]; with_reducible rfl); (case f2 => simp only [setL]; with_reducible rfl); intro _ _))
  have HH := ‹St c' φ' _ _ _›
  have pp := HH.done eD
  have ii := HH.inv
  rw [e2] at pp ii
  rw [e1] at ii
  exact ⟨rfl, h x dx _ (H1.call1 0 rfl pp ii (HH.get 0 rfl))⟩
theorem mk_Number {w : World} {A : Around} {c : Cx} {φ : Fz} {m : List (Str × Value)} {R : List (Addr × Obj)} {s : Shared} {n : Nat} {Q : Value → Shared → Prop} {v1 v2 : Value} {u0 : Value} {u1 : Value} {u2 : Value} (H : St c φ m R s) (G : GW w c.g0 c.P) (r : Rm A (n + 3)) (hi : (∃ i t, u1 = .int i t) ∨ u1 = .none)
    (h : ∀ x dx (bi : Bool) s', St c φ m ((x, ins 428 dx #[some u1, some (.bool bi), some u2, some u0, some v2, some v1]) :: (dx, emptyDict) :: R) s' → Q (.ref x) s') : wpAny (model PG w) A (call (.ref 428) [v1, v2, u0, u1, u2]) Q NoE s := by
  refine' r_make H G ?a ?b ?c ?_
  case a => k_is
  case b => k_is
  case c => k_is
  intro x dx s1 H1
  have H1 : St c φ m ((x, ins 428 dx #[]) :: (dx, emptyDict) :: R) s1 := H1
  have r1 : Rm (A.under (.builtin "type.__call__" ⟨.ref 428 :: [v1, v2, u0, u1, u2], []⟩)) (n + 2) := r.make
  have L := H1.led _ (.head _)
  have Ld := H1.led _ (.tail _ (.head _))
  have hne : dx ≠ x := fun e => by have := H1.ord; simp [e] at this
  have hdP : dx ≠ c.P := fun e => absurd H1.Plt (Nat.not_lt.mpr (e ▸ Ld.2.2.2))
  refine' enterC (binds := [("self", .ref x), ("line", v1), ("column", v2), ("value", u0), ("int_value", u1), ("representation", u2)]) (m := [("representation", u2), ("int_value", u1), ("value", u0), ("column", v2), ("line", v1), ("self", .ref x)]) (Ds := [x]) G H1.inv r1 [(x, ins 428 dx #[])] (by simpa using ⟨L.1, L.2.2.2⟩) (by simp) ?ho ?hcd ?hbind ?hm ?hDs ?body ?hloc ?hcell ?hco ?hgen ?hk
  walk_at "in"
  intro c' φ' s₁ e1 e2 e3 eD hφ H r; subst e3
  have hdφ : φ' dx = some emptyDict := (hφ _ _).mpr ⟨Ld.1, by simpa using hne, hdP⟩
  have G' : GW w c'.g0 c'.P := by rw [e1, e2]; exact G
  have F1 : SetF (KF w.params) 428 "source_line" 89 5 := by walk_at "setf"
  have F2 : SetF (KF w.params) 428 "source_column" 88 4 := by walk_at "setf"
  rcases hi with ⟨iv, itt, rfl⟩ | rfl
  · repeat' (first
      | walk_at "s"
      | walk_at "call"
      | (with_reducible refine isnot_none_none ?_)
      | ((with_reducible show wpAny _ _ (compareOp CmpOp.IsNot (Value.int _ _) Value.none) _ _ _); (refine wpAny_isNot_other (by rfl) (by intro x; cases x) ?_))
      | ((with_reducible show wpAny _ _ (call (Value.ref _) _) _ _ _); (show wpAny _ _ (call (Value.ref 69) _) _ _ _); (refine' s_node (n := 0) (by with_reducible assumption) G' (r.less (by lia)) hdφ F1 F2 ?f1 ?f2 ?_); (case f1 => simp only [setL]; with_reducible rfl); (case f2 => simp only [setL]; with_reducible rfl); intro _ _))
    have HH := ‹St c' φ' _ _ _›
    have pp := HH.done eD
    have ii := HH.inv
    rw [e2] at pp ii
    rw [e1] at ii
    exact ⟨rfl, h x dx _ _ (H1.call1 0 rfl pp ii (HH.get 0 rfl))⟩
  · repeat' (first
      | walk_at "s"
      | walk_at "call"
      | (with_reducible refine isnot_none_none ?_)
      | ((with_reducible show wpAny _ _ (compareOp CmpOp.IsNot (Value.int _ _) Value.none) _ _ _); (refine wpAny_isNot_other (by rfl) (by intro x; cases x) ?_))
      | ((with_reducible show wpAny _ _ (call (Value.ref _) _) _ _ _); (show wpAny _ _ (call (Value.ref 69) _) _ _ _); (refine' s_node (n := 0) (by with_reducible assumption) G' (r.less (by lia)) hdφ F1 F2 ?f1 ?f2 ?_); (case f1 => simp only [setL]; with_reducible rfl); (case f2 => simp only [setL]; with_reducible rfl); intro _ _))
    have HH := ‹St c' φ' _ _ _›
    have pp := HH.done eD
    have ii := HH.inv
    rw [e2] at pp ii
    rw [e1] at ii
    exact ⟨rfl, h x dx _ _ (H1.call1 0 rfl pp ii (HH.get 0 rfl))⟩
theorem mk_Percentage {w : World} {A : Around} {c : Cx} {φ : Fz} {m : List (Str × Value)} {R : List (Addr × Obj)} {s : Shared} {n : Nat} {Q : Value → Shared → Prop} {v1 v2 : Value} {u0 : Value} {u1 : Value} {u2 : Value} (H : St c φ m R s) (G : GW w c.g0 c.P) (r : Rm A (n + 3)) (hi : (∃ i t, u1 = .int i t) ∨ u1 = .none)
    (h : ∀ x dx (bi : Bool) s', St c φ m ((x, ins 460 dx #[some u1, some (.bool bi), some u2, some u0, some v2, some v1]) :: (dx, emptyDict) :: R) s' → Q (.ref x) s') : wpAny (model PG w) A (call (.ref 460) [v1, v2, u0, u1, u2]) Q NoE s := by
  refine' r_make H G ?a ?b ?c ?_
  case a => k_is
  case b => k_is
  case c => k_is
  intro x dx s1 H1
  have H1 : St c φ m ((x, ins 460 dx #[]) :: (dx, emptyDict) :: R) s1 := H1
  have r1 : Rm (A.under (.builtin "type.__call__" ⟨.ref 460 :: [v1, v2, u0, u1, u2], []⟩)) (n + 2) := r.make
  have L := H1.led _ (.head _)
  have Ld := H1.led _ (.tail _ (.head _))
  have hne : dx ≠ x := fun e => by have := H1.ord; simp [e] at this
  have hdP : dx ≠ c.P := fun e => absurd H1.Plt (Nat.not_lt.mpr (e ▸ Ld.2.2.2))
  refine' enterC (binds := [("self", .ref x), ("line", v1), ("column", v2), ("value", u0), ("int_value", u1), ("representation", u2)]) (m := [("representation", u2), ("int_value", u1), ("value", u0), ("column", v2), ("line", v1), ("self", .ref x)]) (Ds := [x]) G H1.inv r1 [(x, ins 460 dx #[])] (by simpa using ⟨L.1, L.2.2.2⟩) (by simp) ?ho ?hcd ?hbind ?hm ?hDs ?body ?hloc ?hcell ?hco ?hgen ?hk
  walk_at "in"
  intro c' φ' s₁ e1 e2 e3 eD hφ H r; subst e3
  have hdφ : φ' dx = some emptyDict := (hφ _ _).mpr ⟨Ld.1, by simpa using hne, hdP⟩
  have G' : GW w c'.g0 c'.P := by rw [e1, e2]; exact G
  have F1 : SetF (KF w.params) 460 "source_line" 89 5 := by walk_at "setf"
  have F2 : SetF (KF w.params) 460 "source_column" 88 4 := by walk_at "setf"
  rcases hi with ⟨iv, itt, rfl⟩ | rfl
  · repeat' (first
      | walk_at "s"
      | walk_at "call"
      | (with_reducible refine isnot_none_none ?_)
      | ((with_reducible show wpAny _ _ (compareOp CmpOp.IsNot (Value.int _ _) Value.none) _ _ _); (refine wpAny_isNot_other (by rfl) (by intro x; cases x) ?_))
      | ((with_reducible show wpAny _ _ (call (Value.ref _) _) _ _ _); (show wpAny _ _ (call (Value.ref 69) _) _ _ _); (refine' s_node (n := 0) (by with_reducible assumption) G' (r.less (by lia)) hdφ F1 F2 ?f1 ?f2 ?_); (case f1 => simp only [setL]; with_reducible rfl); (case f2 => simp only [setL]; with_reducible rfl); intro _ _))
    have HH := ‹St c' φ' _ _ _›
    have pp := HH.done eD
    have ii := HH.inv
    rw [e2] at pp ii
    rw [e1] at ii
    exact ⟨rfl, h x dx _ _ (H1.call1 0 rfl pp ii (HH.get 0 rfl))⟩
  · repeat' (first
      | walk_at "s"
      | walk_at "call"
      | (with_reducible refine isnot_none_none ?_)
      | ((with_reducible show wpAny _ _ (compareOp CmpOp.IsNot (Value.int _ _) Value.none) _ _ _); (refine wpAny_isNot_other (by rfl) (by intro x; cases x) ?_))
      | ((with_reducible show wpAny _ _ (call (Value.ref _) _) _ _ _); (show wpAny _ _ (call (Value.ref 69) _) _ _ _); (refine' s_node (n := 0) (by with_reducible assumption) G' (r.less (by lia)) hdφ F1 F2 ?f1 ?f2 ?_); (case f1 => simp only [setL]; with_reducible rfl); (case f2 => simp only [setL]; with_reducible rfl); intro _ _))
    have HH := ‹St c' φ' _ _ _›
    have pp := HH.done eD
    have ii := HH.inv
    rw [e2] at pp ii
    rw [e1] at ii
    exact ⟨rfl, h x dx _ _ (H1.call1 0 rfl pp ii (HH.get 0 rfl))⟩
theorem mk_Dimension {w : World} {A : Around} {c : Cx} {φ : Fz} {m : List (Str × Value)} {R : List (Addr × Obj)} {s : Shared} {n : Nat} {Q : Value → Shared → Prop} {v1 v2 : Value} {u0 : Value} {u1 : Value} {u2 : Value} {l3 : List Nat} {t3 : Tok} (H : St c φ m R s) (G : GW w c.g0 c.P) (r : Rm A (n + 3)) (hi : (∃ i t, u1 = .int i t) ∨ u1 = .none) (hl : l3.length ≤ 4096)
    (h : ∀ x dx (bi : Bool) (y : List Nat) (ty : Tok) s', St c φ m ((x, ins 492 dx #[some u1, some (.bool bi), some (.str (S y) ty), some u2, some (.str (S l3) t3), some u0, some v2, some v1]) :: (dx, emptyDict) :: R) s' → Q (.ref x) s') : wpAny (model PG w) A (call (.ref 492) [v1, v2, u0, u1, u2, .str (S l3) t3]) Q NoE s := by
  refine' r_make H G ?a ?b ?c ?_
  case a => k_is
  case b => k_is
  case c => k_is
  intro x dx s1 H1
  have H1 : St c φ m ((x, ins 492 dx #[]) :: (dx, emptyDict) :: R) s1 := H1
  have r1 : Rm (A.under (.builtin "type.__call__" ⟨.ref 492 :: [v1, v2, u0, u1, u2, .str (S l3) t3], []⟩)) (n + 2) := r.make
  have L := H1.led _ (.head _)
  have Ld := H1.led _ (.tail _ (.head _))
  have hne : dx ≠ x := fun e => by have := H1.ord; simp [e] at this
  have hdP : dx ≠ c.P := fun e => absurd H1.Plt (Nat.not_lt.mpr (e ▸ Ld.2.2.2))
  refine' enterC (binds := [("self", .ref x), ("line", v1), ("column", v2), ("value", u0), ("int_value", u1), ("representation", u2), ("unit", .str (S l3) t3)]) (m := [("unit", .str (S l3) t3), ("representation", u2), ("int_value", u1), ("value", u0), ("column", v2), ("line", v1), ("self", .ref x)]) (Ds := [x]) G H1.inv r1 [(x, ins 492 dx #[])] (by simpa using ⟨L.1, L.2.2.2⟩) (by simp) ?ho ?hcd ?hbind ?hm ?hDs ?body ?hloc ?hcell ?hco ?hgen ?hk
  walk_at "in"
  intro c' φ' s₁ e1 e2 e3 eD hφ H r; subst e3
  have hdφ : φ' dx = some emptyDict := (hφ _ _).mpr ⟨Ld.1, by simpa using hne, hdP⟩
  have G' : GW w c'.g0 c'.P := by rw [e1, e2]; exact G
  have F1 : SetF (KF w.params) 492 "source_line" 89 7 := by walk_at "setf"
  have F2 : SetF (KF w.params) 492 "source_column" 88 6 := by walk_at "setf"
  rcases hi with ⟨iv, itt, rfl⟩ | rfl
  · repeat' (first
      | walk_at "s"
      | walk_at "call"
      | (with_reducible refine isnot_none_none ?_)
      | ((with_reducible show wpAny _ _ (compareOp CmpOp.IsNot (Value.int _ _) Value.none) _ _ _); (refine wpAny_isNot_other (by rfl) (by intro x; cases x) ?_))
      | ((with_reducible show wpAny _ _ (call (Value.ref _) _) _ _ _); (show wpAny _ _ (call (Value.ref 69) _) _ _ _); (refine' s_node (n := 0) (by with_reducible assumption) G' (r.less (by lia)) hdφ F1 F2 ?f1 ?f2 ?_); (case f1 => simp only [setL]; with_reducible rfl); (case f2 => simp only [setL]; with_reducible rfl); intro _ _)
      | ((with_reducible show wpAny _ _ (call (Value.ref _) _) _ _ _); (show wpAny _ _ (call (Value.ref 54) _) _ _ _); (refine c_lower (n := 0) G' (St.inv (by with_reducible assumption)) (r.less (by lia)) hl ?_); intro y t' s' p I; have H' := St.call0 (by with_reducible assumption) p I))
    have HH := ‹St c' φ' _ _ _›
    have pp := HH.done eD
    have ii := HH.inv
    rw [e2] at pp ii
    rw [e1] at ii
    exact ⟨rfl, h x dx _ _ _ _ (H1.call1 0 rfl pp ii (HH.get 0 rfl))⟩
  · repeat' (first
      | walk_at "s"
      | walk_at "call"
      | (with_reducible refine isnot_none_none ?_)
      | ((with_reducible show wpAny _ _ (compareOp CmpOp.IsNot (Value.int _ _) Value.none) _ _ _); (refine wpAny_isNot_other (by rfl) (by intro x; cases x) ?_))
      | ((with_reducible show wpAny _ _ (call (Value.ref _) _) _ _ _); (show wpAny _ _ (call (Value.ref 69) _) _ _ _); (refine' s_node (n := 0) (by with_reducible assumption) G' (r.less (by lia)) hdφ F1 F2 ?f1 ?f2 ?_); (case f1 => simp only [setL]; with_reducible rfl); (case f2 => simp only [setL]; with_reducible rfl); intro _ _)
      | ((with_reducible show wpAny _ _ (call (Value.ref _) _) _ _ _); (show wpAny _ _ (call (Value.ref 54) _) _ _ _); (refine c_lower (n := 0) G' (St.inv (by with_reducible assumption)) (r.less (by lia)) hl ?_); intro y t' s' p I; have H' := St.call0 (by with_reducible assumption) p I))
    have HH := ‹St c' φ' _ _ _›
    have pp := HH.done eD
    have ii := HH.inv
    rw [e2] at pp ii
    rw [e1] at ii
    exact ⟨rfl, h x dx _ _ _ _ (H1.call1 0 rfl pp ii (HH.get 0 rfl))⟩
theorem mk_Paren {w : World} {A : Around} {c : Cx} {φ : Fz} {m : List (Str × Value)} {R : List (Addr × Obj)} {s : Shared} {n : Nat} {Q : Value → Shared → Prop} {v1 v2 : Value} {u0 : Value} (H : St c φ m R s) (G : GW w c.g0 c.P) (r : Rm A (n + 3)) 
    (h : ∀ x dx  s', St c φ m ((x, ins 526 dx #[some u0, some v2, some v1]) :: (dx, emptyDict) :: R) s' → Q (.ref x) s') : wpAny (model PG w) A (call (.ref 526) [v1, v2, u0]) Q NoE s := by
  refine' r_make H G ?a ?b ?c ?_
  case a => k_is
  case b => k_is
  case c => k_is
  intro x dx s1 H1
  have H1 : St c φ m ((x, ins 526 dx #[]) :: (dx, emptyDict) :: R) s1 := H1
  have r1 : Rm (A.under (.builtin "type.__call__" ⟨.ref 526 :: [v1, v2, u0], []⟩)) (n + 2) := r.make
  have L := H1.led _ (.head _)
  have Ld := H1.led _ (.tail _ (.head _))
  have hne : dx ≠ x := fun e => by have := H1.ord; simp [e] at this
  have hdP : dx ≠ c.P := fun e => absurd H1.Plt (Nat.not_lt.mpr (e ▸ Ld.2.2.2))
  refine' enterC (binds := [("self", .ref x), ("line", v1), ("column", v2), ("content", u0)]) (m := [("content", u0), ("column", v2), ("line", v1), ("self", .ref x)]) (Ds := [x]) G H1.inv r1 [(x, ins 526 dx #[])] (by simpa using ⟨L.1, L.2.2.2⟩) (by simp) ?ho ?hcd ?hbind ?hm ?hDs ?body ?hloc ?hcell ?hco ?hgen ?hk
  walk_at "in"
  intro c' φ' s₁ e1 e2 e3 eD hφ H r; subst e3
  have hdφ : φ' dx = some emptyDict := (hφ _ _).mpr ⟨Ld.1, by simpa using hne, hdP⟩
  have G' : GW w c'.g0 c'.P := by rw [e1, e2]; exact G
  have F1 : SetF (KF w.params) 526 "source_line" 89 2 := by walk_at "setf"
  have F2 : SetF (KF w.params) 526 "source_column" 88 1 := by walk_at "setf"
  repeat' (first
    | walk_at "s"
    | walk_at "call"
    | ((with_reducible show wpAny _ _ (call (Value.ref _) _) _ _ _); (show wpAny _ _ (call (Value.ref 69) _) _ _ _); (refine' s_node (n := 0) (by with_reducible assumption) G' (r.less (by lia)) hdφ F1 F2 ?f1 ?f2 ?_); (case f1 => simp only [setL]; with_reducible rfl); (case f2 => simp only [setL]; with_reducible rfl); intro _ _))
  have HH := ‹St c' φ' _ _ _›
  have pp := HH.done eD
  have ii := HH.inv
  rw [e2] at pp ii
  rw [e1] at ii
  exact ⟨rfl, h x dx _ (H1.call1 0 rfl pp ii (HH.get 0 rfl))⟩
theorem mk_Square {w : World} {A : Around} {c : Cx} {φ : Fz} {m : List (Str × Value)} {R : List (Addr × Obj)} {s : Shared} {n : Nat} {Q : Value → Shared → Prop} {v1 v2 : Value} {u0 : Value} (H : St c φ m R s) (G : GW w c.g0 c.P) (r : Rm A (n + 3)) 
    (h : ∀ x dx  s', St c φ m ((x, ins 555 dx #[some u0, some v2, some v1]) :: (dx, emptyDict) :: R) s' → Q (.ref x) s') : wpAny (model PG w) A (call (.ref 555) [v1, v2, u0]) Q NoE s := by
  refine' r_make H G ?a ?b ?c ?_
  case a => k_is
  case b => k_is
  case c => k_is
  intro x dx s1 H1
  have H1 : St c φ m ((x, ins 555 dx #[]) :: (dx, emptyDict) :: R) s1 := H1
  have r1 : Rm (A.under (.builtin "type.__call__" ⟨.ref 555 :: [v1, v2, u0], []⟩)) (n + 2) := r.make
  have L := H1.led _ (.head _)
  have Ld := H1.led _ (.tail _ (.head _))
  have hne : dx ≠ x := fun e => by have := H1.ord; simp [e] at this
  have hdP : dx ≠ c.P := fun e => absurd H1.Plt (Nat.not_lt.mpr (e ▸ Ld.2.2.2))
  refine' enterC (binds := [("self", .ref x), ("line", v1), ("column", v2), ("content", u0)]) (m := [("content", u0), ("column", v2), ("line", v1), ("self", .ref x)]) (Ds := [x]) G H1.inv r1 [(x, ins 555 dx #[])] (by simpa using ⟨L.1, L.2.2.2⟩) (by simp) ?ho ?hcd ?hbind ?hm ?hDs ?body ?hloc ?hcell ?hco ?hgen ?hk
  walk_at "in"
  intro c' φ' s₁ e1 e2 e3 eD hφ H r; subst e3
  have hdφ : φ' dx = some emptyDict := (hφ _ _).mpr ⟨Ld.1, by simpa using hne, hdP⟩
  have G' : GW w c'.g0 c'.P := by rw [e1, e2]; exact G
  have F1 : SetF (KF w.params) 555 "source_line" 89 2 := by walk_at "setf"
  have F2 : SetF (KF w.params) 555 "source_column" 88 1 := by walk_at "setf"
  repeat' (first
    | walk_at "s"
    | walk_at "call"
    | ((with_reducible show wpAny _ _ (call (Value.ref _) _) _ _ _); (show wpAny _ _ (call (Value.ref 69) _) _ _ _); (refine' s_node (n := 0) (by with_reducible assumption) G' (r.less (by lia)) hdφ F1 F2 ?f1 ?f2 ?_); (case f1 => simp only [setL]; with_reducible rfl); (case f2 => simp only [setL]; with_reducible rfl); intro _ _))
  have HH := ‹St c' φ' _ _ _›
  have pp := HH.done eD
  have ii := HH.inv
  rw [e2] at pp ii
  rw [e1] at ii
  exact ⟨rfl, h x dx _ (H1.call1 0 rfl pp ii (HH.get 0 rfl))⟩
theorem mk_Curly {w : World} {A : Around} {c : Cx} {φ : Fz} {m : List (Str × Value)} {R : List (Addr × Obj)} {s : Shared} {n : Nat} {Q : Value → Shared → Prop} {v1 v2 : Value} {u0 : Value} (H : St c φ m R s) (G : GW w c.g0 c.P) (r : Rm A (n + 3)) 
    (h : ∀ x dx  s', St c φ m ((x, ins 584 dx #[some u0, some v2, some v1]) :: (dx, emptyDict) :: R) s' → Q (.ref x) s') : wpAny (model PG w) A (call (.ref 584) [v1, v2, u0]) Q NoE s := by
  refine' r_make H G ?a ?b ?c ?_
  case a => k_is
  case b => k_is
  case c => k_is
  intro x dx s1 H1
  have H1 : St c φ m ((x, ins 584 dx #[]) :: (dx, emptyDict) :: R) s1 := H1
  have r1 : Rm (A.under (.builtin "type.__call__" ⟨.ref 584 :: [v1, v2, u0], []⟩)) (n + 2) := r.make
  have L := H1.led _ (.head _)
  have Ld := H1.led _ (.tail _ (.head _))
  have hne : dx ≠ x := fun e => by have := H1.ord; simp [e] at this
  have hdP : dx ≠ c.P := fun e => absurd H1.Plt (Nat.not_lt.mpr (e ▸ Ld.2.2.2))
  refine' enterC (binds := [("self", .ref x), ("line", v1), ("column", v2), ("content", u0)]) (m := [("content", u0), ("column", v2), ("line", v1), ("self", .ref x)]) (Ds := [x]) G H1.inv r1 [(x, ins 584 dx #[])] (by simpa using ⟨L.1, L.2.2.2⟩) (by simp) ?ho ?hcd ?hbind ?hm ?hDs ?body ?hloc ?hcell ?hco ?hgen ?hk
  walk_at "in"
  intro c' φ' s₁ e1 e2 e3 eD hφ H r; subst e3
  have hdφ : φ' dx = some emptyDict := (hφ _ _).mpr ⟨Ld.1, by simpa using hne, hdP⟩
  have G' : GW w c'.g0 c'.P := by rw [e1, e2]; exact G
  have F1 : SetF (KF w.params) 584 "source_line" 89 2 := by walk_at "setf"
  have F2 : SetF (KF w.params) 584 "source_column" 88 1 := by walk_at "setf"
  repeat' (first
    | walk_at "s"
    | walk_at "call"
    | ((with_reducible show wpAny _ _ (call (Value.ref _) _) _ _ _); (show wpAny _ _ (call (Value.ref 69) _) _ _ _); (refine' s_node (n := 0) (by with_reducible assumption) G' (r.less (by lia)) hdφ F1 F2 ?f1 ?f2 ?_); (case f1 => simp only [setL]; with_reducible rfl); (case f2 => simp only [setL]; with_reducible rfl); intro _ _))
  have HH := ‹St c' φ' _ _ _›
  have pp := HH.done eD
  have ii := HH.inv
  rw [e2] at pp ii
  rw [e1] at ii
  exact ⟨rfl, h x dx _ (H1.call1 0 rfl pp ii (HH.get 0 rfl))⟩
theorem mk_Function {w : World} {A : Around} {c : Cx} {φ : Fz} {m : List (Str × Value)} {R : List (Addr × Obj)} {s : Shared} {n : Nat} {Q : Value → Shared → Prop} {v1 v2 : Value} {l0 : List Nat} {t0 : Tok} {u1 : Value} (H : St c φ m R s) (G : GW w c.g0 c.P) (r : Rm A (n + 3)) (hl : l0.length ≤ 4096)
    (h : ∀ x dx (y : List Nat) (ty : Tok) s', St c φ m ((x, ins 613 dx #[some u1, some (.str (S y) ty), some (.str (S l0) t0), some v2, some v1]) :: (dx, emptyDict) :: R) s' → Q (.ref x) s') : wpAny (model PG w) A (call (.ref 613) [v1, v2, .str (S l0) t0, u1]) Q NoE s := by
  refine' r_make H G ?a ?b ?c ?_
  case a => k_is
  case b => k_is
  case c => k_is
  intro x dx s1 H1
  have H1 : St c φ m ((x, ins 613 dx #[]) :: (dx, emptyDict) :: R) s1 := H1
  have r1 : Rm (A.under (.builtin "type.__call__" ⟨.ref 613 :: [v1, v2, .str (S l0) t0, u1], []⟩)) (n + 2) := r.make
  have L := H1.led _ (.head _)
  have Ld := H1.led _ (.tail _ (.head _))
  have hne : dx ≠ x := fun e => by have := H1.ord; simp [e] at this
  have hdP : dx ≠ c.P := fun e => absurd H1.Plt (Nat.not_lt.mpr (e ▸ Ld.2.2.2))
  refine' enterC (binds := [("self", .ref x), ("line", v1), ("column", v2), ("name", .str (S l0) t0), ("arguments", u1)]) (m := [("arguments", u1), ("name", .str (S l0) t0), ("column", v2), ("line", v1), ("self", .ref x)]) (Ds := [x]) G H1.inv r1 [(x, ins 613 dx #[])] (by simpa using ⟨L.1, L.2.2.2⟩) (by simp) ?ho ?hcd ?hbind ?hm ?hDs ?body ?hloc ?hcell ?hco ?hgen ?hk
  walk_at "in"
  intro c' φ' s₁ e1 e2 e3 eD hφ H r; subst e3
  have hdφ : φ' dx = some emptyDict := (hφ _ _).mpr ⟨Ld.1, by simpa using hne, hdP⟩
  have G' : GW w c'.g0 c'.P := by rw [e1, e2]; exact G
  have F1 : SetF (KF w.params) 613 "source_line" 89 4 := by walk_at "setf"
  have F2 : SetF (KF w.params) 613 "source_column" 88 3 := by walk_at "setf"
  repeat' (first
    | walk_at "s"
    | walk_at "call"
    | ((with_reducible show wpAny _ _ (call (Value.ref _) _) _ _ _); (show wpAny _ _ (call (Value.ref 69) _) _ _ _); (refine' s_node (n := 0) (by with_reducible assumption) G' (r.less (by lia)) hdφ F1 F2 ?f1 ?f2 ?_); (case f1 => simp only [setL]; with_reducible rfl); (case f2 => simp only [setL]; with_reducible rfl); intro _ _)
    | ((with_reducible show wpAny _ _ (call (Value.ref _) _) _ _ _); (show wpAny _ _ (call (Value.ref 54) _) _ _ _); (refine c_lower (n := 0) G' (St.inv (by with_reducible assumption)) (r.less (by lia)) hl ?_); intro y t' s' p I; have H' := St.call0 (by with_reducible assumption) p I))
  have HH := ‹St c' φ' _ _ _›
  have pp := HH.done eD
  have ii := HH.inv
  rw [e2] at pp ii
  rw [e1] at ii
  exact ⟨rfl, h x dx _ _ _ (H1.call1 0 rfl pp ii (HH.get 0 rfl))⟩
theorem mk_Declaration {w : World} {A : Around} {c : Cx} {φ : Fz} {m : List (Str × Value)} {R : List (Addr × Obj)} {s : Shared} {n : Nat} {Q : Value → Shared → Prop} {v1 v2 : Value} {u0 : Value} {u1 : Value} {u2 : Value} {u3 : Value} (H : St c φ m R s) (G : GW w c.g0 c.P) (r : Rm A (n + 3)) 
    (h : ∀ x dx  s', St c φ m ((x, ins 644 dx #[some u3, some u1, some u0, some u2, some v2, some v1]) :: (dx, emptyDict) :: R) s' → Q (.ref x) s') : wpAny (model PG w) A (call (.ref 644) [v1, v2, u0, u1, u2, u3]) Q NoE s := by
  refine' r_make H G ?a ?b ?c ?_
  case a => k_is
  case b => k_is
  case c => k_is
  intro x dx s1 H1
  have H1 : St c φ m ((x, ins 644 dx #[]) :: (dx, emptyDict) :: R) s1 := H1
  have r1 : Rm (A.under (.builtin "type.__call__" ⟨.ref 644 :: [v1, v2, u0, u1, u2, u3], []⟩)) (n + 2) := r.make
  have L := H1.led _ (.head _)
  have Ld := H1.led _ (.tail _ (.head _))
  have hne : dx ≠ x := fun e => by have := H1.ord; simp [e] at this
  have hdP : dx ≠ c.P := fun e => absurd H1.Plt (Nat.not_lt.mpr (e ▸ Ld.2.2.2))
  refine' enterC (binds := [("self", .ref x), ("line", v1), ("column", v2), ("name", u0), ("lower_name", u1), ("value", u2), ("important", u3)]) (m := [("important", u3), ("value", u2), ("lower_name", u1), ("name", u0), ("column", v2), ("line", v1), ("self", .ref x)]) (Ds := [x]) G H1.inv r1 [(x, ins 644 dx #[])] (by simpa using ⟨L.1, L.2.2.2⟩) (by simp) ?ho ?hcd ?hbind ?hm ?hDs ?body ?hloc ?hcell ?hco ?hgen ?hk
  walk_at "in"
  intro c' φ' s₁ e1 e2 e3 eD hφ H r; subst e3
  have hdφ : φ' dx = some emptyDict := (hφ _ _).mpr ⟨Ld.1, by simpa using hne, hdP⟩
  have G' : GW w c'.g0 c'.P := by rw [e1, e2]; exact G
  have F1 : SetF (KF w.params) 644 "source_line" 89 5 := by walk_at "setf"
  have F2 : SetF (KF w.params) 644 "source_column" 88 4 := by walk_at "setf"
  repeat' (first
    | walk_at "s"
    | walk_at "call"
    | ((with_reducible show wpAny _ _ (call (Value.ref _) _) _ _ _); (show wpAny _ _ (call (Value.ref 69) _) _ _ _); (refine' s_node (n := 0) (by with_reducible assumption) G' (r.less (by lia)) hdφ F1 F2 ?f1 ?f2 ?_); (case f1 => simp only [setL]; with_reducible rfl); (case f2 => simp only [setL]; with_reducible rfl); intro _ _))
  have HH := ‹St c' φ' _ _ _›
  have pp := HH.done eD
  have ii := HH.inv
  rw [e2] at pp ii
  rw [e1] at ii
  exact ⟨rfl, h x dx _ (H1.call1 0 rfl pp ii (HH.get 0 rfl))⟩
theorem mk_Rule {w : World} {A : Around} {c : Cx} {φ : Fz} {m : List (Str × Value)} {R : List (Addr × Obj)} {s : Shared} {n : Nat} {Q : Value → Shared → Prop} {v1 v2 : Value} {u0 : Value} {u1 : Value} (H : St c φ m R s) (G : GW w c.g0 c.P) (r : Rm A (n + 3)) 
    (h : ∀ x dx  s', St c φ m ((x, ins 676 dx #[some u1, some u0, some v2, some v1]) :: (dx, emptyDict) :: R) s' → Q (.ref x) s') : wpAny (model PG w) A (call (.ref 676) [v1, v2, u0, u1]) Q NoE s := by
  refine' r_make H G ?a ?b ?c ?_
  case a => k_is
  case b => k_is
  case c => k_is
  intro x dx s1 H1
  have H1 : St c φ m ((x, ins 676 dx #[]) :: (dx, emptyDict) :: R) s1 := H1
  have r1 : Rm (A.under (.builtin "type.__call__" ⟨.ref 676 :: [v1, v2, u0, u1], []⟩)) (n + 2) := r.make
  have L := H1.led _ (.head _)
  have Ld := H1.led _ (.tail _ (.head _))
  have hne : dx ≠ x := fun e => by have := H1.ord; simp [e] at this
  have hdP : dx ≠ c.P := fun e => absurd H1.Plt (Nat.not_lt.mpr (e ▸ Ld.2.2.2))
  refine' enterC (binds := [("self", .ref x), ("line", v1), ("column", v2), ("prelude", u0), ("content", u1)]) (m := [("content", u1), ("prelude", u0), ("column", v2), ("line", v1), ("self", .ref x)]) (Ds := [x]) G H1.inv r1 [(x, ins 676 dx #[])] (by simpa using ⟨L.1, L.2.2.2⟩) (by simp) ?ho ?hcd ?hbind ?hm ?hDs ?body ?hloc ?hcell ?hco ?hgen ?hk
  walk_at "in"
  intro c' φ' s₁ e1 e2 e3 eD hφ H r; subst e3
  have hdφ : φ' dx = some emptyDict := (hφ _ _).mpr ⟨Ld.1, by simpa using hne, hdP⟩
  have G' : GW w c'.g0 c'.P := by rw [e1, e2]; exact G
  have F1 : SetF (KF w.params) 676 "source_line" 89 3 := by walk_at "setf"
  have F2 : SetF (KF w.params) 676 "source_column" 88 2 := by walk_at "setf"
  repeat' (first
    | walk_at "s"
    | walk_at "call"
    | ((with_reducible show wpAny _ _ (call (Value.ref _) _) _ _ _); (show wpAny _ _ (call (Value.ref 69) _) _ _ _); (refine' s_node (n := 0) (by with_reducible assumption) G' (r.less (by lia)) hdφ F1 F2 ?f1 ?f2 ?_); (case f1 => simp only [setL]; with_reducible rfl); (case f2 => simp only [setL]; with_reducible rfl); intro _ _))
  have HH := ‹St c' φ' _ _ _›
  have pp := HH.done eD
  have ii := HH.inv
  rw [e2] at pp ii
  rw [e1] at ii
  exact ⟨rfl, h x dx _ (H1.call1 0 rfl pp ii (HH.get 0 rfl))⟩
theorem mk_At {w : World} {A : Around} {c : Cx} {φ : Fz} {m : List (Str × Value)} {R : List (Addr × Obj)} {s : Shared} {n : Nat} {Q : Value → Shared → Prop} {v1 v2 : Value} {u0 : Value} {u1 : Value} {u2 : Value} {u3 : Value} (H : St c φ m R s) (G : GW w c.g0 c.P) (r : Rm A (n + 3)) 
    (h : ∀ x dx  s', St c φ m ((x, ins 706 dx #[some u0, some u3, some u1, some u2, some v2, some v1]) :: (dx, emptyDict) :: R) s' → Q (.ref x) s') : wpAny (model PG w) A (call (.ref 706) [v1, v2, u0, u1, u2, u3]) Q NoE s := by
  refine' r_make H G ?a ?b ?c ?_
  case a => k_is
  case b => k_is
  case c => k_is
  intro x dx s1 H1
  have H1 : St c φ m ((x, ins 706 dx #[]) :: (dx, emptyDict) :: R) s1 := H1
  have r1 : Rm (A.under (.builtin "type.__call__" ⟨.ref 706 :: [v1, v2, u0, u1, u2, u3], []⟩)) (n + 2) := r.make
  have L := H1.led _ (.head _)
  have Ld := H1.led _ (.tail _ (.head _))
  have hne : dx ≠ x := fun e => by have := H1.ord; simp [e] at this
  have hdP : dx ≠ c.P := fun e => absurd H1.Plt (Nat.not_lt.mpr (e ▸ Ld.2.2.2))
  refine' enterC (binds := [("self", .ref x), ("line", v1), ("column", v2), ("at_keyword", u0), ("lower_at_keyword", u1), ("prelude", u2), ("content", u3)]) (m := [("content", u3), ("prelude", u2), ("lower_at_keyword", u1), ("at_keyword", u0), ("column", v2), ("line", v1), ("self", .ref x)]) (Ds := [x]) G H1.inv r1 [(x, ins 706 dx #[])] (by simpa using ⟨L.1, L.2.2.2⟩) (by simp) ?ho ?hcd ?hbind ?hm ?hDs ?body ?hloc ?hcell ?hco ?hgen ?hk
  walk_at "in"
  intro c' φ' s₁ e1 e2 e3 eD hφ H r; subst e3
  have hdφ : φ' dx = some emptyDict := (hφ _ _).mpr ⟨Ld.1, by simpa using hne, hdP⟩
  have G' : GW w c'.g0 c'.P := by rw [e1, e2]; exact G
  have F1 : SetF (KF w.params) 706 "source_line" 89 5 := by walk_at "setf"
  have F2 : SetF (KF w.params) 706 "source_column" 88 4 := by walk_at "setf"
  repeat' (first
    | walk_at "s"
    | walk_at "call"
    | ((with_reducible show wpAny _ _ (call (Value.ref _) _) _ _ _); (show wpAny _ _ (call (Value.ref 69) _) _ _ _); (refine' s_node (n := 0) (by with_reducible assumption) G' (r.less (by lia)) hdφ F1 F2 ?f1 ?f2 ?_); (case f1 => simp only [setL]; with_reducible rfl); (case f2 => simp only [setL]; with_reducible rfl); intro _ _))
  have HH := ‹St c' φ' _ _ _›
  have pp := HH.done eD
  have ii := HH.inv
  rw [e2] at pp ii
  rw [e1] at ii
  exact ⟨rfl, h x dx _ (H1.call1 0 rfl pp ii (HH.get 0 rfl))⟩
theorem fig_lt {k : Nat} (h : (!(Builtin.Str.occurrences (Str.ofString "0123456789") (S [k]) 0 (Str.ofString "0123456789").length 1).isEmpty) = true) : figC k = true ∧ k < 4294967296 := by
  rw [lit_fig] at h
  exact ⟨h, by simp [figC] at h; lia⟩
theorem fst1_len (n : Nat) : (fst1 n).length ≤ 4 := by unfold fst1; split; simp; have := (enc_len n).2; lia
theorem c_ident {g0 : Heap} {P : Addr} {w : World} {A : Around} {s : Shared} {n : Nat} {Q : Value → Shared → Prop} (G : GW w g0 P) (I : Inv g0 P s) (r : Rm A (n + 2)) {a : Nat} {l : List Nat} {t : Tok} (hx : (a :: l).length ≤ 1048576)
    (h : ∀ t' s', Pres P [] s s' → Inv g0 P s' → Q (.str (S (idn (a :: l))) t') s') : wpAny (model PG w) A (call (.ref 28) [.str (S (a :: l)) t]) Q NoE s := by
  refine' enter (binds := [("value", .str (S (a :: l)) t)]) (m := [("value", .str (S (a :: l)) t)]) (Ds := []) G I r [] (by simp) (by simp) ?ho ?hcd ?hbind ?hm ?hDs ?body ?hloc ?hcell ?hco ?hgen ?hk
  walk_at "in"
  intro c φ s₁ e1 e2 e3 eD hφ H r; subst e1 e2 e3
  have e1 : Str.ofString "-" = S [45] := by decide +kernel
  have e2 : Str.ofString "--" = S [45, 45] := by decide +kernel
  have e4 : Str.ofString "" = S [] := by decide +kernel
  have f1 : Str.ofString "\\A " = S [92, 65, 32] := by decide +kernel
  have f2 : Str.ofString "\\D " = S [92, 68, 32] := by decide +kernel
  have f3 : Str.ofString "\\C " = S [92, 67, 32] := by decide +kernel
  have f4 : Str.ofString "\\" = S [92] := by decide +kernel
  have g1 : Str.ofString "\n" = S [10] := by decide +kernel
  have g2 : Str.ofString "\r" = S [13] := by decide +kernel
  have g3 : Str.ofString "\x0c" = S [12] := by decide +kernel
  have leaf : ∀ {A' : Around} {Q' : Value → Shared → Prop} {m' : List (Str × Value)} {R' : List (Addr × Obj)} {s' : Shared} {t' : Tok} {l' : List Nat}, St c φ m' R' s' → Rm A' (n + 1) → l'.length ≤ 1048576 →
      (∀ t'' s'', St c φ m' R' s'' → Q' (.str (S (encN l')) t'') s'') → wpAny (model PG w) A' (call (.ref 35) [.str (S l') t']) Q' NoE s' := by
    intro A' Q' m' R' s' t' l' H' r' hl h'
    exact c_name G H'.inv r' (by simpa [S_length] using hl) fun t'' s'' p'' I'' => h' t'' s'' (H'.call0 p'' I'')
  have hn := encN_len l
  repeat' (first | ((fail_if_success (with_reducible show wpAny _ _ (exec (Stmt.If _ _ (_ :: _) _) _) _ _ _)); (first | walk_at "s" | walk_at "call")) | (refine ite_two ?_ ?_ <;> intro hc))
  · have e3 : Str.ofString "\\-" = S (idn [45]) := by decide +kernel
    have e6 : a :: l = [45] := by rw [e1, S_beq] at hc; simpa using hc
    rw [e6] at h
    exact e3 ▸ h _ _ (St.done (by assumption) eD) (St.inv (by assumption))
  · rename_i hc0 _ _ _ _ _ _ _ _
    rw [e2, S_beq] at hc
    obtain ⟨b, l', e6⟩ : ∃ b l', l = b :: l' := by
      cases l with
      | nil => simp at hc
      | cons b l' => exact ⟨b, l', rfl⟩
    subst e6
    have e7 : a = 45 ∧ b = 45 := by simpa using hc
    obtain ⟨rfl, rfl⟩ := e7
    have hn := encN_len l'
    refine leaf (by assumption) r (by simp at hx ⊢; lia) fun t3 s3 H3 => ?_
    refine r_add_str H3 (by have := sizeLine_eq; simp only [e2, S_length]; simp at hx ⊢; lia) fun t4 s4 H4 => ?_
    have e5 : Str.ofString "--" ++ S (encN (List.drop 2 (45 :: 45 :: l'))) = S (idn (45 :: 45 :: l')) := by rw [e2, S_append]; rfl
    exact e5 ▸ h _ _ (H4.done eD) H4.inv
  · have k1 : a :: l ≠ [45] := by
      have := ‹¬(S (a :: l) == Str.ofString "-") = true›
      rw [e1, S_beq] at this; simpa using this
    have k2 : (a :: l).take 2 ≠ [45, 45] := by rw [e2, S_beq] at hc; simpa using hc
    refine wpAny_mono (Q := fun fl s' => fl = Flow.next ∧ ∃ rs b l' t1 t2 m', idn (a :: l) = rs ++ fst1 b ++ encN l' ∧ b ≠ 45 ∧ rs.length ≤ 1 ∧ l'.length ≤ 1048575 ∧ St c φ m' [] s' ∧ Lk m' (Str.ofString "value") (.str (S (b :: l')) t1) ∧ Lk m' (Str.ofString "result") (.str (S rs) t2)) ?_ ?_ fun _ _ z => z
    · repeat' (first | ((fail_if_success (with_reducible show wpAny _ _ (subscriptTail _ _ (.str (S (List.drop 1 _)) _) _) _ _ _)); (first | walk_at "s" | walk_at "call")) | (refine ite_two ?_ ?_ <;> intro hc))
      · rw [e1, S_beq] at hc
        have ha : a = 45 := by simpa using hc
        subst ha
        obtain ⟨b, l', e6⟩ : ∃ b l', l = b :: l' := by
          cases l with
          | nil => exact absurd rfl k1
          | cons b l' => exact ⟨b, l', rfl⟩
        subst e6
        have hb : b ≠ 45 := fun e => k2 (by rw [e]; rfl)
        exact ⟨rfl, [45], b, l', _, _, _, by simp [idn, hb], hb, Nat.le_refl _, by simp at hx; lia, by assumption, Lk.here, Lk.there (by decide +kernel) (by rw [← e1]; exact Lk.here)⟩
      · rw [e1, S_beq] at hc
        have ha : a ≠ 45 := by simpa using hc
        have hi : idn (a :: l) = fst1 a ++ encN l := by
          unfold idn
          split
          · rename_i h1; cases h1
          · rename_i h1; cases h1; exact absurd rfl ha
          · rename_i h1; cases h1; rfl
        exact ⟨rfl, [], a, l, _, _, _, by simpa using hi, ha, Nat.zero_le _, by simp at hx; lia, by assumption, Lk.there (by decide +kernel) Lk.here, (by rw [← e4]; exact Lk.here)⟩
    · rintro fl s' ⟨rfl, rs, b, l', t1, t2, m', hi, hb, hrs, hl', H', hv, hr⟩
      repeat' (first | walk_at "s" | walk_at "call" | (refine ite_two ?_ ?_ <;> intro hc))
      rename_i t5 _ _ s5 H5
      simp only [List.getElem_cons_zero] at H5 ⊢
      refine wpAny_mono (Q := fun v s₁ => ∃ t', v = .str (S (fst1 b)) t' ∧ St c φ ((Str.ofString "c", .str (S [b]) t5) :: m') [] s₁) ?_ ?_ fun _ _ z => z
      · repeat' (first | walk_at "s" | walk_at "i" | (refine ite_two ?_ ?_ <;> intro hc) | ((with_reducible refine' r_hex1 (by assumption) (fig_lt (by assumption)).2 ?_); intro _ _ _))
        all_goals refine ⟨_, congrArg (fun z => Value.str z _) ?_, by assumption⟩
        all_goals simp only [lit_let, g1, g2, g3, S_beq, f1, f2, f3, f4, S_append] at *
        · rw [fst_1 (by assumption)]
        · rw [fst_2 (by assumption)]
        · rw [fst_3 (by simpa using ‹decide ([b] = [10]) = true›)]
        · rw [fst_4 (by simpa using ‹decide ([b] = [13]) = true›)]
        · rw [fst_5 (by simpa using ‹decide ([b] = [12]) = true›)]
        · rw [fst_6 (fig_lt (by assumption)).1]
        · rw [fst_7 hb (by assumption) (by assumption) (by simpa using ‹¬decide ([b] = [10]) = true›) (by simpa using ‹¬decide ([b] = [13]) = true›) (by simpa using ‹¬decide ([b] = [12]) = true›) (by rw [← lit_fig]; assumption)]; rfl
      · rintro v s6 ⟨t6, rfl, H6⟩
        have hn' := encN_len l'
        have hf := fst1_len b
        repeat' (first | walk_at "s" | walk_at "call")
        refine leaf (by assumption) r (by simpa using Nat.le_succ_of_le hl') fun t3 s3 H3 => ?_
        refine r_iadd_str H3 (by have := sizeLine_eq; simp only [S_append, S_length, List.length_append]; simp; lia) fun t7 s7 H7 => ?_
        repeat' (first | walk_at "s" | walk_at "call")
        rw [S_append, S_append] at *
        exact hi ▸ h _ _ (St.done (by assumption) eD) (St.inv (by assumption))
section
variable {g0 : Heap} {P : Addr} {w : World} {A : Around} {s : Shared}
theorem c_sign {n : Nat} {Q : Value → Shared → Prop} (G : GW w g0 P) (I : Inv g0 P s) (r : Rm A (n + 1)) {k : Nat} {t : Tok}
    (h : ∀ t' s', Pres P [] s s' → Inv g0 P s' → Q (.str (encS k) t') s') : wpAny (model PG w) A (call (.ref 770) [.str ⟨#[k]⟩ t]) Q NoE s := by
  refine' enter (binds := [("sign", .str ⟨#[k]⟩ t)]) (m := [("sign", .str ⟨#[k]⟩ t)]) (Ds := []) G I r [] (by simp) (by simp) ?ho ?hcd ?hbind ?hm ?hDs ?body ?hloc ?hcell ?hco ?hgen ?hk
  walk_at "in"
  intro c φ s₁ e1 e2 e3 eD hφ H r; subst e1 e2 e3
  repeat' (first | walk_at "s" | (refine ite_two ?_ ?_ <;> intro _))
  all_goals (simp only [lit_plain2, lit_lf, lit_cr, lit_ff, lit_eA, lit_eD, lit_eC] at *)
  all_goals first
    | exact (enc_1 (by assumption)) ▸ h _ _ (St.done (by assumption) eD) (St.inv (by assumption))
    | exact (enc_2 (by assumption)) ▸ h _ _ (St.done (by assumption) eD) (St.inv (by assumption))
    | exact (enc_3 (by assumption) (by assumption) (by assumption)) ▸ h _ _ (St.done (by assumption) eD) (St.inv (by assumption))
    | exact (enc_4 (by assumption) (by assumption) (by assumption) (by assumption)) ▸ h _ _ (St.done (by assumption) eD) (St.inv (by assumption))
    | exact (enc_5 (by assumption) (by assumption) (by assumption) (by assumption) (by assumption)) ▸ h _ _ (St.done (by assumption) eD) (St.inv (by assumption))
    | (refine r_add_str (by assumption) (by have : sizeLine = 16777216 := by decide
                                            have : (Str.ofString "\\").length = 1 := by decide +kernel
                                            simp [Str.length] at *; lia) fun t' s' H' => ?_
       exact (enc_6 (by assumption) (by assumption) (by assumption) (by assumption) (by assumption)) ▸ h _ _ (H'.done eD) H'.inv)
end
theorem lit_fig3 : Str.ofString "\\3" = S [92, 51] := by decide +kernel
theorem lit_sp : Str.ofString " " = S [32] := by decide +kernel
theorem c_spell {g0 : Heap} {P : Addr} {w : World} {A : Around} {s : Shared} {n : Nat} {Q : Value → Shared → Prop} (G : GW w g0 P) (I : Inv g0 P s) (r : Rm A (n + 2)) {l : List Nat} {t : Tok} (hx : l.length ≤ 4096) (h0 : l ≠ [])
    (h : ∀ t' s', Pres P [] s s' → Inv g0 P s' → Q (.str (S (idn l)) t') s') : wpAny (model PG w) A (call (.ref 777) [.str (S l) t]) Q NoE s := by
  refine' enter (binds := [("name", .str (S l) t)]) (m := [("name", .str (S l) t)]) (Ds := []) G I r [] (by simp) (by simp) ?ho ?hcd ?hbind ?hm ?hDs ?body ?hloc ?hcell ?hco ?hgen ?hk
  walk_at "in"
  intro c φ s₁ e1 e2 e3 eD hφ H r; subst e1 e2 e3
  have e1 : Str.ofString "-" = S [45] := by decide +kernel
  have e4 : Str.ofString "" = S [] := by decide +kernel
  repeat' (first | walk_at "s" | walk_at "call" | (refine ite_two ?_ ?_ <;> intro hc))
  · have e3 : Str.ofString "\\-" = S (idn [45]) := by decide +kernel
    have e6 : l = [45] := by rw [e1, S_beq] at hc; simpa using hc
    rw [e6] at h
    exact e3 ▸ h _ _ (St.done (by assumption) eD) (St.inv (by assumption))
  · have h1 : l ≠ [45] := by rw [e1, S_beq] at hc; simpa using hc
    have J0 : ∀ (t0 : Tok) (m : List (Str × Value)), ∃ t', Lk ((Str.ofString "text", Value.str (Str.ofString "") t0) :: m) (Str.ofString "text") (.str (S (spT l 0)) t') := fun t0 m => ⟨t0, by show Lk _ _ (.str (S []) t0); rw [← e4]; exact Lk.here⟩
    refine r_for_enum (J := fun i φ' m' R' => φ' = φ ∧ R' = [] ∧ Lk m' (Str.ofString "name") (.str (S l) t) ∧ ∃ t', Lk m' (Str.ofString "text") (.str (S (spT l i)) t')) r.hh (by assumption) ⟨rfl, rfl, by walk_at "lk", J0 _ _⟩ ?_ ?_
    · rintro i φ' m' R' z1 z2 t1 u s2 T hi ⟨rfl, rfl, hn, t', ht⟩ _ H2 hT
      have hi' : i < l.length := by simpa [S] using hi
      have hT' : s2.heap.IsTuple T #[.int i t1, .str (S [l[i]]) u] := hT
      clear hT
      have hlen := spT_len l i
      have hl3 := (enc_len l[i]).2
      have sg : ∀ {Q' : Value → Shared → Prop} {m1 : List (Str × Value)} {R1 : List (Addr × Obj)} {s1 : Shared}, St c φ' m1 R1 s1 → (∀ t3 s3, St c φ' m1 R1 s3 → Q' (.str (S (enc l[i])) t3) s3) →
          wpAny (model PG w) _ (call (.ref 770) [.str (S [l[i]]) u]) Q' NoE s1 := fun H1 h1 => c_sign G H1.inv r fun t3 s3 p3 I3 => h1 t3 s3 (H1.call0 p3 I3)
      repeat' (first | walk_at "s" | walk_at "call" | ((with_reducible refine sg (by with_reducible assumption) ?_); intro _ _ _) | (refine ite_two ?_ ?_ <;> intro hc))
      all_goals
        refine ⟨φ', _, _, by assumption, Fz.le_refl _, rfl, rfl, by walk_at "lk", ?_⟩
        have key : spT l (i + 1) = spT l i ++ spP (decide (i = 0) || decide (l.take i = [45])) l[i] := spT_succ l i hi'
        rw [key, ← S_append]
        simp only [lit_fig, lit_fig3, lit_sp, S_append, e1, S_beq] at *
        simp only [← S_append (spT l i)]
      · have e8 : spP (decide (i = 0) || decide (l.take i = [45])) l[i] = [92, 51, l[i], 32] := by
          have : i = 0 := by simpa using ‹decide (i = 0) = true›
          simp [spP, this] at *; simp [*]
        rw [e8]
        exact ⟨_, Lk.here⟩
      · have e8 : spP (decide (i = 0) || decide (l.take i = [45])) l[i] = [92, 51, l[i], 32] := by
          simp [spP] at *; simp [*]
        rw [e8]
        exact ⟨_, Lk.here⟩
      · have e8 : spP (decide (i = 0) || decide (l.take i = [45])) l[i] = enc l[i] := by
          have : ¬ i = 0 := by simpa using ‹¬decide (i = 0) = true›
          simp [spP, this] at *; simp [*]
        rw [e8]
        exact ⟨_, Lk.here⟩
      · have e8 : spP (decide (i = 0) || decide (l.take i = [45])) l[i] = enc l[i] := by
          simp [spP] at *; simp [*]
        rw [e8]
        exact ⟨_, Lk.here⟩
    · rintro φ' m' R' s2 ⟨rfl, rfl, hn, t', ht⟩ _ H2
      repeat' (first | walk_at "s" | walk_at "call" | (refine ite_two ?_ ?_ <;> intro hc))
      have e6 : spT l (S l).cps.size = idn l := by rw [← spT_all l h0 h1]; simp [S]
      exact e6 ▸ h _ _ (St.done (by assumption) eD) (St.inv (by assumption))
/-- a unit's text -/
def unt (l : List Nat) : List Nat := if l = [101] ∨ l.take 2 = [101, 45] then [92, 54, 53, 32] ++ encN (l.drop 1) else idn l
theorem flat_enc (l : List Nat) : (l.map enc).flatten = encN l := by rw [encN, List.flatMap_def]
section
variable {g0 : Heap} {P : Addr} {w : World} {A : Around} {s : Shared}
theorem comp_signs {c : Cx} {φ : Fz} {m : List (Str × Value)} {R : List (Addr × Obj)} {elt iter : Expr} {gsc : Scope} {x q : Str} {px pos : Pos} {L f : Addr} {cd : Value} {n : Nat} {l : List Nat} {t : Tok} {Q : Value → Shared → Prop} (G : GW w c.g0 c.P) (r : Rm A (n + 1)) (H : St c φ m R s) (hn : l.length ≤ 4096)
    (hcell : (gsc.names.all fun y => decide (y.2 ≠ .cell)) = true) (hkind : gsc.kind = .function) (hx : gsc.names.lookup x = some .local)
    (hE : ∀ (c' : Cx) {φ' : Fz} {m' : List (Str × Value)} {R' : List (Addr × Obj)} {s' : Shared} {k : Nat} {u : Tok} {Q' : Value → Shared → Prop}, GW w c'.g0 c'.P → St c' φ' ((x, .str (S [k]) u) :: m') R' s' →
      (∀ s', St c' φ' ((x, .str (S [k]) u) :: m') R' s' → wpAny (model PG w) A (call (.ref 770) [.str (S [k]) u]) Q' NoE s') → wpAny (model PG w) A (eval elt (cEnv q gsc c'.L L cd)) Q' NoE s')
    (h : ∀ a o vs s, LstO o vs.toArray → Txts vs (l.map enc) → St c φ m ((a, o) :: R) s → Q (.ref a) s) :
    wpAny (model PG w) A (pyIter (.str (S l) t)) (CompK w A elt x px iter gsc pos (envOf q sc L f cd) Q) NoE s := by
  refine comp_text (J := fun i vs => Txts vs ((l.take i).map enc)) r.hh H Txts.nil (by lia) hcell hkind hx ?_ ?_
  · intro i φ' m' R' s u vs c' hi eg eP hJ hl H'
    refine hE c' (by rw [eg, eP]; exact G) H' fun s2 H2 => ?_
    refine c_sign (by rw [eg, eP] at *; exact G) H2.inv r fun t3 s3 p3 I3 => ⟨?_, H2.call0 p3 I3⟩
    rw [List.take_succ_eq_append_getElem hi, List.map_append]
    exact hJ.snoc
  · intro a o vs s ho hl hJ H'
    rw [List.take_length] at hJ
    exact h a o vs s ho hJ H'
theorem c_unit {n : Nat} {Q : Value → Shared → Prop} (G : GW w g0 P) (I : Inv g0 P s) (r : Rm A (n + 3)) {l : List Nat} {t : Tok} (hx : l.length ≤ 4096) (h0 : l ≠ [])
    (h : ∀ t' s', Pres P [] s s' → Inv g0 P s' → Q (.str (S (unt l)) t') s') : wpAny (model PG w) A (call (.ref 782) [.str (S l) t]) Q NoE s := by
  refine' enter (binds := [("unit", .str (S l) t)]) (m := [("unit", .str (S l) t)]) (Ds := []) G I r [] (by simp) (by simp) ?ho ?hcd ?hbind ?hm ?hDs ?body ?hloc ?hcell ?hco ?hgen ?hk
  walk_at "in"
  intro c φ s₁ e1 e2 e3 eD hφ H r; subst e1 e2 e3
  have b1 : Str.ofString "e" = S [101] := by decide +kernel
  have b2 : Str.ofString "e-" = S [101, 45] := by decide +kernel
  have b3 : Str.ofString "\\65 " = S [92, 54, 53, 32] := by decide +kernel
  have hz := encN_len (l.drop 1)
  have hz2 : (l.drop 1).length ≤ 4096 := by simp only [List.length_drop]; lia
  repeat' (first
    | walk_at "s"
    | walk_at "call"
    | (refine ite_two ?_ ?_ <;> intro hc)
    | (with_reducible refine comp_signs G r (by with_reducible assumption) hz2 (by kernel_rfl!) rfl (by kernel_rfl!) ?_ ?_))
  · intro c' φ' m' R' s' k u Q' G' H' h'
    repeat' (first | walk_at "s" | walk_at "call")
    exact h' _ (by assumption)
  · intro a o vs s2 ho hv H2
    rw [← flat_enc] at hz
    repeat' (first | walk_at "s" | walk_at "call")
    have hc1 : l = [101] ∨ l.take 2 = [101, 45] := by
      simp only [b1, b2, S_beq] at *
      left; simpa using hc
    have e : Str.ofString "\\65 " ++ S (List.map enc (List.drop 1 l)).flatten = S (unt l) := by rw [flat_enc, b3, S_append]; unfold unt; rw [if_pos hc1]
    exact e ▸ h _ _ (St.done (by assumption) eD) (St.inv (by assumption))
  · intro c' φ' m' R' s' k u Q' G' H' h'
    repeat' (first | walk_at "s" | walk_at "call")
    exact h' _ (by assumption)
  · intro a o vs s2 ho hv H2
    rw [← flat_enc] at hz
    repeat' (first | walk_at "s" | walk_at "call")
    have hc1 : l = [101] ∨ l.take 2 = [101, 45] := by
      simp only [b1, b2, S_beq] at *
      right; simpa using hc
    have e : Str.ofString "\\65 " ++ S (List.map enc (List.drop 1 l)).flatten = S (unt l) := by rw [flat_enc, b3, S_append]; unfold unt; rw [if_pos hc1]
    exact e ▸ h _ _ (St.done (by assumption) eD) (St.inv (by assumption))
  · have hc1 : ¬ (l = [101] ∨ l.take 2 = [101, 45]) := by
      simp only [b1, b2, S_beq] at *
      rintro (e | e)
      · simp_all
      · simp_all
    have e : unt l = idn l := by unfold unt; rw [if_neg hc1]
    rw [e] at h
    exact c_spell G (St.inv (by assumption)) r hx h0 fun t3 s3 p3 I3 => h _ _ ((St.call0 (by assumption) p3 I3).done eD) I3
end
theorem signs_list (w : World) : ∃ o, (KF w.params).lookup 721 = some o ∧ ∃ items, LstO o items ∧ ∀ j, j < 16 → ∃ k t, items[j]? = some (.str (S [k]) t) := by
  refine' fetch ?h ?g
  case h => k_is
  case g =>
    refine ⟨_, ⟨rfl, _, rfl⟩, fun j hj => ?_⟩
    have key : ∀ j, j < 16 → ∀ t, ((([97, 45, 55, 90, 95, 233, 32, 10, 34, 13, 12, 46, 92, 48, 40, 1] : List Nat)[j]?).map fun k => Value.str (S [k]) t) = ((["a", "-", "7", "Z", "_", "é", " ", "\n", "\"", "\r", "\x0c", ".", "\\", "0", "(", "\x01"] : List String)[j]?).map fun y => Value.str (Str.ofString y) t := by
      intro j hj t
      have : ∀ j, j < 16 → ((([97, 45, 55, 90, 95, 233, 32, 10, 34, 13, 12, 46, 92, 48, 40, 1] : List Nat)[j]?).map fun k => S [k]) = ((["a", "-", "7", "Z", "_", "é", " ", "\n", "\"", "\r", "\x0c", ".", "\\", "0", "(", "\x01"] : List String)[j]?).map Str.ofString := by decide +kernel
      have := this j hj
      have e := congrArg (Option.map fun y => Value.str y t) this
      simpa [Option.map_map, Function.comp_def] using e
    match j, hj with
    | 0, _ => exact ⟨97, _, key 0 (by decide) _ |>.symm⟩
    | 1, _ => exact ⟨45, _, key 1 (by decide) _ |>.symm⟩
    | 2, _ => exact ⟨55, _, key 2 (by decide) _ |>.symm⟩
    | 3, _ => exact ⟨90, _, key 3 (by decide) _ |>.symm⟩
    | 4, _ => exact ⟨95, _, key 4 (by decide) _ |>.symm⟩
    | 5, _ => exact ⟨233, _, key 5 (by decide) _ |>.symm⟩
    | 6, _ => exact ⟨32, _, key 6 (by decide) _ |>.symm⟩
    | 7, _ => exact ⟨10, _, key 7 (by decide) _ |>.symm⟩
    | 8, _ => exact ⟨34, _, key 8 (by decide) _ |>.symm⟩
    | 9, _ => exact ⟨13, _, key 9 (by decide) _ |>.symm⟩
    | 10, _ => exact ⟨12, _, key 10 (by decide) _ |>.symm⟩
    | 11, _ => exact ⟨46, _, key 11 (by decide) _ |>.symm⟩
    | 12, _ => exact ⟨92, _, key 12 (by decide) _ |>.symm⟩
    | 13, _ => exact ⟨48, _, key 13 (by decide) _ |>.symm⟩
    | 14, _ => exact ⟨40, _, key 14 (by decide) _ |>.symm⟩
    | 15, _ => exact ⟨1, _, key 15 (by decide) _ |>.symm⟩
    | j + 16, h => exact absurd h (by lia)
theorem c_lawname {g0 : Heap} {P : Addr} {w : World} {A : Around} {s : Shared} {n : Nat} {Q : Value → Shared → Prop} (G : GW w g0 P) (I : Inv g0 P s) (r : Rm A (n + 1)) {k : Nat} {t : Tok}
    (h : ∀ a l t' s', l.length ≤ 2 → Pres P [] s s' → Inv g0 P s' → Q (.str (S (a :: l)) t') s') : wpAny (model PG w) A (call (.ref 763) [.int k t]) Q NoE s := by
  refine' enter (binds := [("n", .int k t)]) (m := [("n", .int k t)]) (Ds := []) G I r [] (by simp) (by simp) ?ho ?hcd ?hbind ?hm ?hDs ?body ?hloc ?hcell ?hco ?hgen ?hk
  walk_at "in"
  intro c φ s₁ e1 e2 e3 eD hφ H r; subst e1 e2 e3
  have e4 : Str.ofString "" = S [] := by decide +kernel
  repeat' (first | walk_at "s" | walk_at "call" | (refine ite_two ?_ ?_ <;> intro hc))
  have J0 : ∀ (t0 : Tok) (m : List (Str × Value)), ∃ y t', y.length = 0 ∧ Lk ((Str.ofString "name", Value.str (Str.ofString "") t0) :: m) (Str.ofString "name") (.str (S y) t') := fun t0 m => ⟨[], t0, rfl, by rw [← e4]; exact Lk.here⟩
  refine r_for_range (J := fun i φ' m' R' => φ' = φ ∧ R' = [] ∧ (∃ j t', Lk m' (Str.ofString "n") (.int (j : Nat) t')) ∧ ∃ y t', y.length = i ∧ Lk m' (Str.ofString "name") (.str (S y) t')) r.hh (by assumption) (by lia) ⟨rfl, rfl, ⟨k, t, by walk_at "lk"⟩, J0 _ _⟩ ?_ ?_
  · rintro i φ' m' R' z t1 s2 hi ⟨rfl, rfl, ⟨j, t2, hj⟩, y, t3, hy, hn⟩ _ H2
    have hi3 : i < 3 := by lia
    repeat' (first | walk_at "s" | walk_at "call" | (refine ite_two ?_ ?_ <;> intro hc))
    obtain ⟨o, ho, items, hlst, hit⟩ := signs_list w
    have sub : ∀ {A' : Around} {value slice : Expr} {s' : Shared} {m' : List (Str × Value)} {R' : List (Addr × Obj)} {j : Nat} {u : Tok} {Q' : Value → Shared → Prop}, St c φ' m' R' s' → (∀ k t, Q' (.str (S [k]) t) s') →
        (subscripted slice false (.ref 721) (.int (j % 16 : Nat) u) = operate [.ref 721, .int (j % 16 : Nat) u] (getItem (.ref 721) (.int (j % 16 : Nat) u))) → (∀ r, letTemporaryGo value (.ref 721) r = pure ()) →
        wpAny (model PG w) A' (subscriptTail value slice (.ref 721) (.int (j % 16 : Nat) u)) Q' NoE s' := by
      intro A' value slice s' m' R' j u Q' H' h' hs ht
      obtain ⟨k, t, e⟩ := hit (j % 16) (Nat.mod_lt _ (by decide))
      exact r_list_item ⟨o, H'.fn G ho, hlst⟩ rfl (by lia) e (h' k t) hs ht
    repeat' (first
     | walk_at "s"
     | walk_at "call"
     | walk_at "i"
     | (refine ite_two ?_ ?_ <;> intro hc)
     | ((with_reducible refine' sub (by with_reducible assumption) ?_ ?hs ?ht); (case hs => with_unfolding_all rfl); (case ht => intro _; with_unfolding_all rfl); intro _ _))
    all_goals exact ⟨φ', _, _, by assumption, Fz.le_refl _, rfl, rfl, ⟨_, _, by walk_at "lk"⟩, _, _, (by rw [List.length_append, hy]; rfl : (y ++ [_]).length = i + 1), by rw [← S_append]; exact Lk.here⟩
  · rintro φ' m' R' s2 ⟨rfl, rfl, ⟨j, t2, hj⟩, y, t3, hy, hn⟩ _ H2
    repeat' (first | walk_at "s" | walk_at "call" | (refine ite_two ?_ ?_ <;> intro hc))
    cases y with
    | nil => simp at hy
    | cons a l => exact h a l _ _ (by simp at hy; lia) (St.done (by assumption) eD) (St.inv (by assumption))
def hexL : List Nat := [48, 49, 50, 51, 52, 53, 54, 55, 56, 57, 65, 66, 67, 68, 69, 70]
theorem hexD_ok : ∀ d, (h : d < 16) → hexN d = [hexL[d]] := by decide +kernel
theorem hexN_step (n : Nat) (h : 16 ≤ n) : hexN n = hexN (n / 16) ++ [hexL[n % 16]'(Nat.mod_lt _ (by decide))] := by
  rw [← hexD_ok (n % 16) (Nat.mod_lt _ (by decide))]
  unfold hexN
  rw [← List.map_append, ← List.map_append, Nat.toDigits_append_toDigits (by decide) (Nat.div_pos h (by decide)) (Nat.mod_lt _ (by decide)), Nat.div_add_mod]
theorem lit_hexL : Str.ofString "0123456789ABCDEF" = S hexL := by decide +kernel
/-- what the loop holds -/
def HexJ (n j : Nat) (T : List Nat) : Prop := if T = [] then j = n else hexN n = (if j = 0 then [] else hexN j) ++ T
theorem HexJ.step {n j : Nat} {T : List Nat} (h : HexJ n j T) (hj : 0 < j ∨ T = []) : HexJ n (j / 16) (hexL[j % 16]'(Nat.mod_lt _ (by decide)) :: T) := by
  unfold HexJ at *
  rw [if_neg (by simp)]
  have e : ∀ j, hexN j = (if j / 16 = 0 then [] else hexN (j / 16)) ++ [hexL[j % 16]'(Nat.mod_lt _ (by decide))] := by
    intro j
    by_cases h16 : 16 ≤ j
    · have : j / 16 ≠ 0 := by lia
      rw [if_neg this]; exact hexN_step j h16
    · have h0 : j / 16 = 0 := by lia
      have hm : j % 16 = j := by lia
      rw [if_pos h0]
      have := hexD_ok (j % 16) (Nat.mod_lt _ (by decide))
      rw [List.nil_append, ← this, hm]
  by_cases hT : T = []
  · rw [if_pos hT] at h
    subst hT h
    exact e j
  · rw [if_neg hT] at h
    have hj : j ≠ 0 := by rcases hj with hj | hj; lia; exact absurd hj hT
    rw [h, if_neg hj, e j]; simp
theorem HexJ.len {n j : Nat} {T : List Nat} (hn : n < 4294967296) (h : HexJ n j T) : T.length ≤ 8 := by
  unfold HexJ at h
  split at h
  · rename_i hT; subst hT; simp
  · have := hexN_len (n := n) (by lia)
    rw [h, List.length_append] at this; lia
theorem c_base {g0 : Heap} {P : Addr} {w : World} {A : Around} {s : Shared} {n : Nat} {Q : Value → Shared → Prop} (G : GW w g0 P) (I : Inv g0 P s) (r : Rm A (n + 1)) {k : Nat} {t : Tok} (hk : k < 4294967296)
    (h : ∀ t' s', Pres P [] s s' → Inv g0 P s' → Q (.str (S (hexN k)) t') s') : wpAny (model PG w) A (call (.ref 789) [.int k t]) Q NoE s := by
  refine' enter (binds := [("n", .int k t)]) (m := [("n", .int k t)]) (Ds := []) G I r [] (by simp) (by simp) ?ho ?hcd ?hbind ?hm ?hDs ?body ?hloc ?hcell ?hco ?hgen ?hk
  walk_at "in"
  intro c φ s₁ e1 e2 e3 eD hφ H r; subst e1 e2 e3
  have e4 : Str.ofString "" = S [] := by decide +kernel
  repeat' (first | walk_at "s" | walk_at "call" | (refine ite_two ?_ ?_ <;> intro hc))
  have J0 : ∀ (t0 : Tok) (m : List (Str × Value)), ∃ t', Lk ((Str.ofString "text", Value.str (Str.ofString "") t0) :: m) (Str.ofString "text") (.str (S []) t') := fun t0 m => ⟨t0, by rw [← e4]; exact Lk.here⟩
  refine r_while (fun x s' => ∃ j T m' t1 t2, x = (if T = [] then j + 1 else j) ∧ HexJ k j T ∧ St c φ m' [] s' ∧ Lk m' (Str.ofString "n") (.int (j : Nat) t1) ∧ Lk m' (Str.ofString "text") (.str (S T) t2)) ?_ (k + 1) ⟨k, [], _, t, _, rfl, rfl, by assumption, by walk_at "lk", (J0 _ _).choose_spec⟩
  rintro x s2 ⟨j, T, m', t1, t2, rfl, hJ, H2, hn, hT⟩
  have hl := hJ.len hk
  repeat' (first
    | walk_at "s"
    | walk_at "call"
    | (refine ite_two ?_ ?_ <;> intro hc)
    | ((with_reducible refine' r_item_of hexL (j % 16) lit_hexL (by with_reducible assumption) ?a ?b ?d ?_ ?hs ?ht); (case a => rfl); (case b => exact Nat.mod_lt _ (by decide)); (case d => lia); (case hs => intros; with_unfolding_all rfl); (case ht => intros; with_unfolding_all rfl); intro _ _ _))
  · have h1 : 0 < j := by simpa using hc
    refine ⟨j / 16, ?_, j / 16, _, _, _, _, ?_, hJ.step (.inl h1), by assumption, Lk.here, Lk.there (by decide +kernel) (by rw [S_append]; exact Lk.here)⟩
    · split <;> lia
    · rw [if_neg (List.cons_ne_nil _ _)]
  · have h1 : T = [] := by rw [e4, S_beq] at hc; simpa using hc
    refine ⟨j / 16, ?_, j / 16, _, _, _, _, ?_, hJ.step (.inr h1), by assumption, Lk.here, Lk.there (by decide +kernel) (by rw [S_append]; exact Lk.here)⟩
    · rw [if_pos h1]; lia
    · rw [if_neg (List.cons_ne_nil _ _)]
  · have h1 : T ≠ [] := by rw [e4, S_beq] at hc; simpa using hc
    have h2 : j = 0 := by have := ‹¬decide ((0 : Int) < (j : Nat)) = true›; simp at this; lia
    have e : T = hexN k := by
      unfold HexJ at hJ
      rw [if_neg h1, if_pos h2, List.nil_append] at hJ
      exact hJ.symm
    exact e ▸ h _ _ (St.done (by assumption) eD) (St.inv (by assumption))
def isIn (a : Value) (l : List String) : Bool := l.any fun x => keyIs a (.str (Str.ofString x) 0)
def badV (a : Value) (b : Str) : Bool :=
  (isIn a ["ident", "at-keyword", "hash", "dimension", "#", "-", "number"] && isIn (.str b 0) ["ident", "function", "url", "number", "percentage", "dimension", "unicode-range"]) ||
  ((isIn a ["ident", "at-keyword", "hash", "dimension"] && isIn (.str b 0) ["-", "-->"]) ||
  ((isIn a ["#", "-", "number", "@"] && isIn (.str b 0) ["ident", "function", "url"]) ||
  ((isIn a ["unicode-range", ".", "+"] && isIn (.str b 0) ["number", "percentage", "dimension"]) ||
  ((keyIs a (.str (Str.ofString "@") 0) && isIn (.str b 0) ["ident", "function", "url", "unicode-range", "-"]) ||
  ((keyIs a (.str (Str.ofString "unicode-range") 0) && isIn (.str b 0) ["ident", "function", "?"]) ||
  ((isIn a ["$", "*", "^", "~", "|"] && (b == Str.ofString "=")) ||
  ((keyIs a (.str (Str.ofString "ident") 0) && (Str.ofString "() block" == b)) || ((keyIs a (.str (Str.ofString "|") 0) && (Str.ofString "|" == b)) || (keyIs a (.str (Str.ofString "/") 0) && (Str.ofString "*" == b))))))))))
theorem keyIs0 (a : Value) (u : Str) (t : Tok) : keyIs a (.str u t) = keyIs a (.str u 0) := by cases a <;> rfl
def strOf : Value → Str
  | .str z _ => z
  | _ => Str.ofString ""
theorem any_isIn {a : Value} : ∀ {vs : List Value} {l : List String}, vs.map strOf = l.map Str.ofString → (∀ y ∈ vs, ∃ z t, y = .str z t) → vs.any (keyIs a) = isIn a l
  | [], [], _, _ => rfl
  | [], _ :: _, h, _ => by simp at h
  | _ :: _, [], h, _ => by simp at h
  | y :: vs, x :: l, h, hs => by
    obtain ⟨z, t, rfl⟩ := hs y (.head _)
    simp only [List.map_cons, List.cons.injEq] at h
    have ih := any_isIn (a := a) h.2 fun y hy => hs y (.tail _ hy)
    show (keyIs a (.str z t) || vs.any (keyIs a)) = (keyIs a (.str (Str.ofString x) 0) || isIn a l)
    rw [ih, keyIs0 a z t]
    have e : z = Str.ofString x := h.1
    rw [e]
theorem r_in_lits {w : World} {A : Around} {c : Cx} {φ : Fz} {m : List (Str × Value)} {R : List (Addr × Obj)} {s : Shared} {a : Addr} {o : Obj} {v : Value} {vs : List Value} {l : List String} {Q : Value → Shared → Prop} (H : St c φ m ((a, o) :: R) s) (ho : TupO o vs.toArray) (hv : StrOrNone v)
    (h : ∀ s, St c φ m R s → Q (.bool (isIn v l)) s) (e : vs.map strOf = l.map Str.ofString) (hs : ∀ y ∈ vs, ∃ z t, y = .str z t) : wpAny (model PG w) A (compareOp .In v (.ref a)) Q NoE s :=
  r_in_tuple H ho hv hs fun H' => by rw [any_isIn e hs]; exact h _ H'
theorem r_eq_key {w : World} {A : Around} {s : Shared} {a : Value} {z : Str} {t : Tok} {Q : Value → Shared → Prop} (ha : StrOrNone a) (h : Q (.bool (keyIs a (.str z 0))) s) : wpAny (model PG w) A (compareOp .Eq a (.str z t)) Q NoE s := by
  cases a with
  | str x u =>
    refine eq_str ?_
    have e : (x == z) = (z == x) := Bool.eq_iff_iff.mpr (by simp only [beq_iff_eq]; exact eq_comm)
    rw [e]; exact h
  | none => exact SeqAt.RcAt.none_str z t _ _ _ _ h
  | _ => exact absurd ha id
theorem c_bad {g0 : Heap} {P : Addr} {w : World} {A : Around} {s : Shared} {n : Nat} {Q : Value → Shared → Prop} (G : GW w g0 P) (I : Inv g0 P s) (r : Rm A (n + 2)) {a : Value} {b : Str} {t : Tok} (ha : StrOrNone a)
    (h : ∀ s', Pres P [] s s' → Inv g0 P s' → Q (.bool (badV a b)) s') : wpAny (model PG w) A (call (.ref 49) [a, .str b t]) Q NoE s := by
  refine' enter (binds := [("a", a), ("b", .str b t)]) (m := [("b", .str b t), ("a", a)]) (Ds := []) G I r [] (by simp) (by simp) ?ho ?hcd ?hbind ?hm ?hDs ?body ?hloc ?hcell ?hco ?hgen ?hk
  walk_at "in"
  intro c φ s₁ e1 e2 e3 eD hφ H r; subst e1 e2 e3
  have hb : StrOrNone (.str b t) := trivial
  repeat' (first | walk_at "s" | walk_at "call")
  refine BE.go (b := badV a b) (c := c) (φ := φ) (m := [("b", .str b t), ("a", a)]) (R := []) ?be H fun s' H' => h _ (H'.done eD) H'.inv
  unfold badV
  repeat' (first | with_reducible refine BE.or ?_ ?_ | with_reducible refine BE.and ?_ ?_ | with_reducible refine BE.one ?_)
  all_goals
    refine BE.mk ?_
    intro s1 Q1 H1 k
    repeat' (first
      | walk_at "s"
      | ((with_reducible refine r_eq_key ha ?_))
      | ((with_reducible refine' r_in_lits (by with_reducible assumption) ?ho ?hv ?k ?e ?hs); (case ho => with_reducible assumption); (case hv => with_reducible assumption); (case k => exact k); (case e => rfl); (case hs => simp))
      | ((with_reducible refine' r_in_pairs (by with_reducible assumption) ?ho ?h1 ?h2 ?h3 ?hx ?hv ?hu ?_); (case ho => with_reducible assumption); (case h1 => with_reducible assumption); (case h2 => with_reducible assumption); (case h3 => with_reducible assumption); (case hx => with_reducible assumption); (case hv => with_reducible assumption); (case hu => have := r.un; lia); intro _))
    all_goals exact k _ (by assumption)
def tabL : List (String × String) := [("ident", "xxxxxxxxxx...."), ("at-keyword", "xxxxxxxxx....."), ("hash", "xxxxxxxxx....."), ("dimension", "xxxxxxxxx....."), ("#", "xxxxxxx......."), ("-", "xxxxxxx......."), ("number", "xxxxxxx......."), ("@", "xxx...xx......"), ("unicode-range", "xx.xxx....x..."), (".", "...xxx........"), ("+", "...xxx........"), ("$", "...........x.."), ("*", "...........x.."), ("^", "...........x.."), ("~", "...........x.."), ("|", "...........xx."), ("/", ".............x")]
def colL : List (String × Int × Tok × Tok) := [("ident", 0, 1261, 1262), ("function", 1, 1263, 1264), ("url", 2, 1265, 1266), ("number", 3, 1267, 1268), ("percentage", 4, 1269, 1270), ("dimension", 5, 1271, 1272), ("unicode-range", 6, 1273, 1274), ("-", 7, 1275, 1276), ("-->", 8, 1277, 1278), ("() block", 9, 1279, 1280), ("?", 10, 1281, 1282), ("=", 11, 1283, 1284), ("|", 12, 1285, 1286), ("*", 13, 1287, 1288)]
def tabD : List (PyData × PyData) := tabL.map fun p => (.str (Str.ofString p.1), .str (Str.ofString p.2))
def colD : List (PyData × PyData) := colL.map fun p => (.str (Str.ofString p.1), .int p.2.1)
open PyProof.V PyProof.Rows in
theorem cols_of {w : World} : ∀ L : List (String × Int × Tok × Tok), KeysOf (PySem.strKind PG w) (L.map fun p => (⟨PyData.keyHash w.params (Str.ofString p.1), .str (Str.ofString p.1) p.2.2.1, .int p.2.1 p.2.2.2⟩ : DictEntry)).toArray ∧
    Pairs (PySem.strKind PG w) (L.map fun p => (⟨PyData.keyHash w.params (Str.ofString p.1), .str (Str.ofString p.1) p.2.2.1, .int p.2.1 p.2.2.2⟩ : DictEntry)) (L.map fun p => (Str.ofString p.1, Value.int p.2.1 p.2.2.2)) ∧
    FlatPairs PyData.str (L.map fun p => (Str.ofString p.1, Value.int p.2.1 p.2.2.2)) (L.map fun p => (.str (Str.ofString p.1), .int p.2.1))
  | [] => ⟨fun _ h => by simp at h, .nil, .nil⟩
  | p :: L => by
    obtain ⟨h1, h2, h3⟩ := cols_of (w := w) L
    refine ⟨fun e he => ?_, .cons (strKind_is _ _ _ _) rfl h2, .cons (.int _ _) h3⟩
    have he : e ∈ (L.map fun p => (⟨PyData.keyHash w.params (Str.ofString p.1), .str (Str.ofString p.1) p.2.2.1, .int p.2.1 p.2.2.2⟩ : DictEntry)) ∨ e = ⟨PyData.keyHash w.params (Str.ofString p.1), .str (Str.ofString p.1) p.2.2.1, .int p.2.1 p.2.2.2⟩ := by
      rcases List.mem_cons.mp (List.mem_toArray.mp he) with rfl | he
      · exact .inr rfl
      · exact .inl he
    rcases he with he | rfl
    · exact h1 e (List.mem_toArray.mpr he)
    · exact ⟨Str.ofString p.1, strKind_is _ _ _ _, rfl⟩
open PyProof.V PyProof.Rows in
theorem cols_obj (w : World) : ∃ o, (KF w.params).lookup 713 = some o ∧ ∃ kvs, o.IsDictOf (PySem.strKind PG w) kvs ∧ FlatPairs PyData.str kvs colD := by
  refine' fetch ?h ?g
  case h => k_is
  case g =>
    obtain ⟨h1, h2, h3⟩ := cols_of (w := w) colL
    exact ⟨_, ⟨_, _, ⟨rfl, rfl, rfl⟩, rfl, h1, h2, by decide +kernel⟩, h3⟩
def isRow : PyData → Bool
  | .str x => x.cps.toList.length == 14
  | _ => false
def isCol : PyData → Bool
  | .int j => decide (0 ≤ j) && decide (j < 14)
  | _ => false
theorem lookup_all {k v : PyData} {q : PyData → Bool} : ∀ {D : List (PyData × PyData)}, D.all (fun p => q p.2) = true → PySem.Spec.lookup k D = some v → q v = true
  | [], _, h => by cases h
  | (a, b) :: r, ha, h => by
    simp only [List.all_cons, Bool.and_eq_true] at ha
    unfold PySem.Spec.lookup at h
    split at h
    · cases h; exact ha.1
    · exact lookup_all ha.2 h
theorem row_of {x : Str} {v : PyData} (h : PySem.Spec.lookup (.str x) tabD = some v) : ∃ r, v = .str (S r) ∧ r.length = 14 := by
  have := lookup_all (q := isRow) (by decide +kernel) h
  cases v with
  | str y => exact ⟨y.cps.toList, by rw [← S_list], by simpa [isRow] using this⟩
  | _ => cases this
theorem col_of {x : Str} {v : PyData} (h : PySem.Spec.lookup (.str x) colD = some v) : ∃ j : Nat, v = .int j ∧ j < 14 := by
  have := lookup_all (q := isCol) (by decide +kernel) h
  cases v with
  | int j =>
    simp only [isCol, Bool.and_eq_true, decide_eq_true_eq] at this
    exact ⟨j.toNat, by rw [Int.toNat_of_nonneg this.1], by lia⟩
  | _ => cases this
def tabV (l k : Str) : Bool := match PySem.Spec.lookup (.str l) tabD, PySem.Spec.lookup (.str k) colD with
  | some (.str row), some (.int j) => row.cps.toList[j.toNat]? == some 120
  | _, _ => false
def encT (p : Str × Str) : PyData × PyData := (.str p.1, .str p.2)
theorem putD_fresh : ∀ {acc : List (Str × Str)} {k v : Str}, k ∉ acc.map (·.1) → PyProof.V.putD (.str k) (.str v) (acc.map encT) = (acc ++ [(k, v)]).map encT := by
  intro acc k v h
  unfold PyProof.V.putD
  rw [if_neg]
  · simp [encT]
  · simp only [List.any_map, List.any_eq_true, not_exists, not_and]
    intro p hp e
    have e' : PySem.Spec.same (.str p.1) (.str k) = true := e
    rw [PyProof.V.same_str] at e'
    exact h (List.mem_map.mpr ⟨p, hp, by simpa using e'⟩)
theorem fold_put : ∀ (L acc : List (Str × Str)), ((acc ++ L).map (·.1)).Nodup → (L.map encT).foldl (fun a p => PyProof.V.putD p.1 p.2 a) (acc.map encT) = (acc ++ L).map encT
  | [], acc, _ => by simp
  | p :: L, acc, h => by
    have hp : p.1 ∉ acc.map (·.1) := by
      intro hm
      rw [List.map_append, List.nodup_append] at h
      exact h.2.2 _ hm _ (List.mem_map.mpr ⟨p, .head _, rfl⟩) rfl
    show (L.map encT).foldl _ (PyProof.V.putD (.str p.1) (.str p.2) (acc.map encT)) = _
    rw [putD_fresh hp, fold_put L (acc ++ [p]) (by simpa using h)]
    simp
theorem fold_tab : tabD.foldl (fun a p => PyProof.V.putD p.1 p.2 a) [] = tabD := by
  have e : tabD = (tabL.map fun p => (Str.ofString p.1, Str.ofString p.2)).map encT := by unfold tabD; rw [List.map_map]; rfl
  rw [e]
  exact fold_put _ [] (by decide +kernel)
theorem c_table {g0 : Heap} {P : Addr} {w : World} {A : Around} {s : Shared} {n : Nat} {Q : Value → Shared → Prop} (G : GW w g0 P) (I : Inv g0 P s) (r : Rm A (n + 1))
    (h : ∀ a o s', Pres P [] s s' → Inv g0 P s' → s.heap.get? a = none → g0.objs.size ≤ a → s'.heap.get? a = some o → (∃ kvs, o.IsDictOf (PySem.strKind PG w) kvs ∧ PyProof.V.FlatPairs PyData.str kvs tabD) → Q (.ref a) s') : wpAny (model PG w) A (call (.ref 720) []) Q NoE s := by
  refine' enter (binds := []) (m := []) (Ds := []) G I r [] (by simp) (by simp) ?ho ?hcd ?hbind ?hm ?hDs ?body ?hloc ?hcell ?hco ?hgen ?hk
  walk_at "in"
  intro c φ s₁ e1 e2 e3 eD hφ H r; subst e1 e2 e3
  with_reducible refine wpAny_execs_cons ?_
  with_reducible refine wpAny_Return_some ?_
  have R := fun keys values pos k a b c' d e f h => @r_dict17 w (A.deeper (envOf "_law_TABLE" { kind := ScopeKind.function, names := [], isGenerator := false, isCoroutine := false } c.L 720 (.ref 719))) c φ [] [] s₁ (envOf "_law_TABLE" { kind := ScopeKind.function, names := [], isGenerator := false, isCoroutine := false } c.L 720 (.ref 719)) keys values pos tabD tabD k H a b c' d e f fold_tab h
  refine' R _ _ _ _ ?a ?b ?c ?d ?e ?f ?h
  case a => kernel_rfl!
  case b => decide +kernel
  case c => decide +kernel
  case d => with_unfolding_all rfl
  case e => with_unfolding_all rfl
  case f => with_unfolding_all rfl
  intro a o s' hd H'
  exact h a o s' (H'.done eD) H'.inv (H'.newL eD (.head _)) (H'.led _ (.head _)).2.2.2 (H'.get 0 rfl) hd
section
variable {w : World} {A : Around} {c : Cx} {φ : Fz} {m : List (Str × Value)} {R : List (Addr × Obj)} {s : Shared} {a : Addr} {o : Obj}
open PyProof.V PyProof.Rows
theorem tab_at (H : St c φ m ((a, o) :: R) s) (G : GW w c.g0 c.P) (hd : ∃ kvs, o.IsDictOf (PySem.strKind PG w) kvs ∧ FlatPairs PyData.str kvs tabD) : StrTab PG w s.heap a tabD := by
  obtain ⟨kvs, h1, h2⟩ := hd
  exact TabAt.ofObj (H.noMod G (H.led _ (.head _)).2.2.2) (H.get 0 rfl) h1 h2
theorem col_at (H : St c φ m R s) (G : GW w c.g0 c.P) : StrTab PG w s.heap 713 colD := by
  obtain ⟨o, ho, kvs, h1, h2⟩ := cols_obj w
  exact TabAt.ofObj (by decide) (H.fn G ho) h1 h2
theorem r_in_tab {l : Str} {t : Tok} {Q : Value → Shared → Prop} (H : St c φ m ((a, o) :: R) s) (G : GW w c.g0 c.P) (hd : ∃ kvs, o.IsDictOf (PySem.strKind PG w) kvs ∧ FlatPairs PyData.str kvs tabD) (h : ∀ s', St c φ m R s' → Q (.bool (PySem.Spec.lookup (.str l) tabD).isSome) s') :
    wpAny (model PG w) A (compareOp .In (.str l t) (.ref a)) Q NoE s := in_strTab (tab_at H G hd) (h _ ((H.toks _).tail 1))
theorem r_in_col {l : Str} {t : Tok} {Q : Value → Shared → Prop} (H : St c φ m R s) (G : GW w c.g0 c.P) (h : ∀ s', St c φ m R s' → Q (.bool (PySem.Spec.lookup (.str l) colD).isSome) s') :
    wpAny (model PG w) A (compareOp .In (.str l t) (.ref 713)) Q NoE s := in_strTab (col_at H G) (h _ (H.toks _))
theorem r_at_tab {l : Str} {t : Tok} {value slice : Expr} {Q : Value → Shared → Prop} (H : St c φ m ((a, o) :: R) s) (G : GW w c.g0 c.P) (hd : ∃ kvs, o.IsDictOf (PySem.strKind PG w) kvs ∧ FlatPairs PyData.str kvs tabD) (hh : A.handled = none)
    (hl : (PySem.Spec.lookup (.str l) tabD).isSome = true) (hs : subscripted slice false (.ref a) (.str l t) = operate [.ref a, .str l t] (getItem (.ref a) (.str l t)))
    (h : ∀ r t' s', PySem.Spec.lookup (.str l) tabD = some (.str (S r)) → r.length = 14 → St c φ m R s' → Q (.str (S r) t') s') : wpAny (model PG w) A (subscriptTail value slice (.ref a) (.str l t)) Q NoE s := by
  refine item_strTab_split_any (tab_at H G hd) hh (fun dv e v hv => ?_) (fun e => by rw [e] at hl; cases hl) hs
  obtain ⟨r, rfl, hr⟩ := row_of e
  obtain ⟨t', rfl⟩ := hv.str_inv
  exact h r t' _ e hr ((H.toks _).tail 1)
theorem r_at_col {l : Str} {t : Tok} {value slice : Expr} {Q : Value → Shared → Prop} (H : St c φ m R s) (G : GW w c.g0 c.P) (hh : A.handled = none)
    (hl : (PySem.Spec.lookup (.str l) colD).isSome = true) (hs : subscripted slice false (.ref 713) (.str l t) = operate [.ref 713, .str l t] (getItem (.ref 713) (.str l t)))
    (h : ∀ (j : Nat) t' s', PySem.Spec.lookup (.str l) colD = some (.int j) → j < 14 → St c φ m R s' → Q (.int j t') s') : wpAny (model PG w) A (subscriptTail value slice (.ref 713) (.str l t)) Q NoE s := by
  refine item_strTab_split_any (col_at H G) hh (fun dv e v hv => ?_) (fun e => by rw [e] at hl; cases hl) hs
  obtain ⟨j, rfl, hj⟩ := col_of e
  obtain ⟨t', rfl⟩ := hv.int_inv
  exact h j t' _ e hj (H.toks _)
end
def markV (l k : Str) (p : List Nat) : List Nat := if tabV l k = true then [47, 42, 42, 47] else if (l == Str.ofString "\\" && !(k == Str.ofString "whitespace" && decide (p.take 1 = [10]))) = true then [10] else []
theorem tabV_t {l k : Str} {r : List Nat} {j : Nat} (h1 : PySem.Spec.lookup (.str l) tabD = some (.str (S r))) (h2 : PySem.Spec.lookup (.str k) colD = some (.int j)) (hj : j < r.length) : tabV l k = (S [r[j]] == Str.ofString "x") := by
  have e : Str.ofString "x" = S [120] := by decide +kernel
  unfold tabV
  rw [h1, h2, e, S_beq]
  have : (S r).cps.toList = r := by simp [S]
  show ((S r).cps.toList[(j : Int).toNat]? == some 120) = _
  rw [this, Int.toNat_natCast, List.getElem?_eq_getElem hj]
  by_cases h : r[j] = 120
  · simp [h]
  · simp [h]
theorem tabV_n1 {l k : Str} (h : ¬ (PySem.Spec.lookup (.str l) tabD).isSome = true) : tabV l k = false := by
  unfold tabV
  cases e : PySem.Spec.lookup (.str l) tabD with
  | none => rfl
  | some v => rw [e] at h; exact absurd rfl h
theorem tabV_n2 {l k : Str} (h : ¬ (PySem.Spec.lookup (.str k) colD).isSome = true) : tabV l k = false := by
  unfold tabV
  cases e : PySem.Spec.lookup (.str k) colD with
  | none => split <;> simp_all
  | some v => rw [e] at h; exact absurd rfl h
theorem c_mark {g0 : Heap} {P : Addr} {w : World} {A : Around} {s : Shared} {n : Nat} {Q : Value → Shared → Prop} (G : GW w g0 P) (I : Inv g0 P s) (r : Rm A (n + 2)) {l k : Str} {p : List Nat} {t1 t2 t3 : Tok} (hp : p.length ≤ 16777216)
    (h : ∀ t' s', Pres P [] s s' → Inv g0 P s' → Q (.str (S (markV l k p)) t') s') : wpAny (model PG w) A (call (.ref 796) [.str l t1, .str k t2, .str (S p) t3]) Q NoE s := by
  refine' enter (binds := [("left", .str l t1), ("kind", .str k t2), ("piece", .str (S p) t3)]) (m := [("piece", .str (S p) t3), ("kind", .str k t2), ("left", .str l t1)]) (Ds := []) G I r [] (by simp) (by simp) ?ho ?hcd ?hbind ?hm ?hDs ?body ?hloc ?hcell ?hco ?hgen ?hk
  walk_at "in"
  intro c φ s₁ e1 e2 e3 eD hφ H r; subst e1 e2 e3
  have tb : ∀ {A' : Around} {s' : Shared} {m' : List (Str × Value)} {R' : List (Addr × Obj)} {Q' : Value → Shared → Prop}, Rm A' (n + 1) → St c φ m' R' s' → (∀ a o s'', (∃ kvs, o.IsDictOf (PySem.strKind PG w) kvs ∧ PyProof.V.FlatPairs PyData.str kvs tabD) → St c φ m' ((a, o) :: R') s'' → Q' (.ref a) s'') →
      wpAny (model PG w) A' (call (.ref 720) []) Q' NoE s' := fun r' H' h' => c_table G H'.inv r' fun a o s'' pr I' hn hg ho hd => h' a o s'' hd (H'.adopt (H'.call0 pr I') hn hg ho)
  have e47 : Str.ofString "/**/" = S [47, 42, 42, 47] := by decide +kernel
  have e10 : Str.ofString "\n" = S [10] := by decide +kernel
  have e0 : Str.ofString "" = S [] := by decide +kernel
  have fin : ∀ (x : Str) (t' : Tok) (s' : Shared), St c φ [("piece", .str (S p) t3), ("kind", .str k t2), ("left", .str l t1)] [] s' → x = S (markV l k p) → Q (.str x t') s' := fun x t' s' H' e => e ▸ h t' s' (H'.done eD) H'.inv
  repeat' (first
    | walk_at "s"
    | walk_at "call"
    | (refine ite_two ?_ ?_ <;> intro hc)
    | ((with_reducible refine' tb (by with_reducible assumption) (by with_reducible assumption) ?_); intro _ _ _ _ _)
    | ((with_reducible refine' r_in_tab (by with_reducible assumption) G (by with_reducible assumption) ?_); intro _ _)
    | ((with_reducible refine' r_in_col (by with_reducible assumption) G ?_); intro _ _)
    | ((with_reducible refine' r_at_tab (by with_reducible assumption) G (by with_reducible assumption) (Rm.hh (by with_reducible assumption)) (by with_reducible assumption) ?hs ?_); (case hs => with_unfolding_all rfl); intro _ _ _ _ _ _)
    | ((with_reducible refine' r_at_col (by with_reducible assumption) G (Rm.hh (by with_reducible assumption)) (by with_reducible assumption) ?hs ?_); (case hs => with_unfolding_all rfl); intro _ _ _ _ _ _)
    | ((with_reducible refine' r_item _ (by with_reducible assumption) ?a ?b ?d ?_ ?hs ?ht); (case a => with_reducible rfl); (case b => lia); (case d => lia); (case hs => intros; with_unfolding_all rfl); (case ht => intros; with_unfolding_all rfl); intro _ _ _))
  all_goals refine fin _ _ _ (by assumption) ?_
  all_goals unfold markV
  all_goals first
    | (exact absurd ‹(!true) = true› (by decide))
    | (rw [if_pos (by rw [tabV_t (by assumption) (by assumption) (by lia)]; assumption)]; exact e47)
    | rw [if_neg (by rw [tabV_n1 (by assumption)]; decide)]
    | rw [if_neg (by rw [tabV_n2 (by assumption)]; decide)]
    | rw [if_neg (by rw [tabV_t (by assumption) (by assumption) (by lia)]; assumption)]
  all_goals rw [show decide (p.take 1 = [10]) = (S (p.take 1) == Str.ofString "\n") by rw [e10, S_beq]]
  all_goals clear fin h tb
  all_goals simp_all only [Bool.not_true, Bool.false_eq_true, not_true_eq_false, not_false_eq_true, if_true, if_false, Bool.and_true, Bool.true_and, Bool.and_false, Bool.false_and, Bool.not_false, Bool.not_eq_true]
/-- the table says what the code says -/
def rowsN : List String := ["ident", "at-keyword", "hash", "dimension", "#", "-", "number", "@", "unicode-range", ".", "+", "$", "*", "^", "~", "|", "/"]
def colsN : List String := ["ident", "function", "url", "number", "percentage", "dimension", "unicode-range", "-", "-->", "() block", "?", "=", "|", "*"]
theorem tab_bad_in : ∀ a ∈ rowsN, ∀ b ∈ colsN, tabV (Str.ofString a) (Str.ofString b) = badV (.str (Str.ofString a) 0) (Str.ofString b) := by decide +kernel
theorem lookup_map {β : Type} (f : β → PyData) (g : β → String) (x : Str) : ∀ (L : List β), x ∉ L.map (fun p => Str.ofString (g p)) → PySem.Spec.lookup (.str x) (L.map fun p => (.str (Str.ofString (g p)), f p)) = none
  | [], _ => rfl
  | p :: L, h => by
    simp only [List.map_cons, List.mem_cons, not_or] at h
    show (if PySem.Spec.same (.str (Str.ofString (g p))) (.str x) = true then _ else _) = none
    rw [PyProof.V.same_str, if_neg (by simpa using fun e => h.1 (e.symm)), lookup_map f g x L h.2]
theorem keyIs_str (a z : Str) (t u : Tok) : keyIs (.str a t) (.str z u) = (z == a) := rfl
theorem tab_bad (a b : Str) : tabV a b = badV (.str a 0) b := by
  by_cases ha : a ∈ rowsN.map Str.ofString
  · by_cases hb : b ∈ colsN.map Str.ofString
    · obtain ⟨x, hx, rfl⟩ := List.mem_map.mp ha
      obtain ⟨y, hy, rfl⟩ := List.mem_map.mp hb
      exact tab_bad_in x hx y hy
    · have h1 : tabV a b = false := by
        unfold tabV
        rw [show PySem.Spec.lookup (.str b) colD = none from lookup_map (fun p : String × Int × Tok × Tok => PyData.int p.2.1) (fun p => p.1) b colL (by rw [show colL.map (fun p => Str.ofString p.1) = colsN.map Str.ofString from rfl]; exact hb)]
        cases PySem.Spec.lookup (.str a) tabD with
        | none => rfl
        | some v => cases v <;> rfl
      have hb' : ∀ x ∈ colsN, (Str.ofString x == b) = false := fun x hx => beq_eq_false_iff_ne.mpr fun e => hb (List.mem_map.mpr ⟨x, hx, e⟩)
      simp only [colsN, List.forall_mem_cons] at hb'
      obtain ⟨c1, c2, c3, c4, c5, c6, c7, c8, c9, c10, c11, c12, c13, c14, _⟩ := hb'
      have c12' : (b == Str.ofString "=") = false := beq_eq_false_iff_ne.mpr fun e => by rw [e] at c12; simp at c12
      rw [h1]
      simp only [badV, isIn, keyIs_str, List.any_cons, List.any_nil, c1, c2, c3, c4, c5, c6, c7, c8, c9, c10, c11, c12', c13, c14, Bool.or_false, Bool.and_false]
  · have h1 : tabV a b = false := by
      unfold tabV
      rw [show PySem.Spec.lookup (.str a) tabD = none from lookup_map (fun p : String × String => PyData.str (Str.ofString p.2)) (fun p => p.1) a tabL (by rw [show tabL.map (fun p => Str.ofString p.1) = rowsN.map Str.ofString from rfl]; exact ha)]
    have ha' : ∀ x ∈ rowsN, (Str.ofString x == a) = false := fun x hx => beq_eq_false_iff_ne.mpr fun e => ha (List.mem_map.mpr ⟨x, hx, e⟩)
    simp only [rowsN, List.forall_mem_cons] at ha'
    obtain ⟨c1, c2, c3, c4, c5, c6, c7, c8, c9, c10, c11, c12, c13, c14, c15, c16, c17, _⟩ := ha'
    rw [h1]
    simp only [badV, isIn, keyIs_str, List.any_cons, List.any_nil, c1, c2, c3, c4, c5, c6, c7, c8, c9, c10, c11, c12, c13, c14, c15, c16, c17, Bool.or_false, Bool.false_and]
def isDecl (k : Str) : List Nat := if (k == Str.ofString "declaration") = true then [59] else []
def joinV : Str → List (Str × List Nat) → List Nat
  | _, [] => []
  | l, (k, T) :: r => markV l k T ++ T ++ isDecl k ++ joinV k r
def lastK : Str → List (Str × List Nat) → Str
  | l, [] => l
  | _, (k, _) :: r => lastK k r
theorem joinV_append : ∀ (a b : List (Str × List Nat)) (l : Str), joinV l (a ++ b) = joinV l a ++ joinV (lastK l a) b
  | [], _, _ => rfl
  | (k, T) :: a, b, l => by
    show markV l k T ++ T ++ isDecl k ++ joinV k (a ++ b) = markV l k T ++ T ++ isDecl k ++ joinV k a ++ joinV (lastK k a) b
    rw [joinV_append a b k]; simp
theorem lastK_append : ∀ (a b : List (Str × List Nat)) (l : Str), lastK l (a ++ b) = lastK (lastK l a) b
  | [], _, _ => rfl
  | (k, _) :: a, b, _ => lastK_append a b k
theorem markV_len (l k : Str) (T : List Nat) : (markV l k T).length ≤ 4 := by
  unfold markV; split <;> (try split) <;> simp
theorem isDecl_len (k : Str) : (isDecl k).length ≤ 1 := by unfold isDecl; split <;> simp
theorem joinV_len {z : Nat} : ∀ (a : List (Str × List Nat)) (l : Str), (∀ p ∈ a, p.2.length ≤ z) → (joinV l a).length ≤ a.length * (z + 5)
  | [], _, _ => by simp [joinV]
  | (k, T) :: a, l, h => by
    have h1 := markV_len l k T
    have h2 := isDecl_len k
    have h3 : T.length ≤ z := h _ (.head _)
    have ih := joinV_len a k fun p hp => h p (.tail _ hp)
    simp only [joinV, List.length_append, List.length_cons, Nat.add_mul, Nat.one_mul]
    lia
/-- one of told -/
def Te (κ : Fz) (v : Value) (q : Str × List Nat) : Prop := ∃ x o t u, v = .ref x ∧ κ x = some o ∧ TupO o #[.str q.1 t, .str (S q.2) u]
theorem Te.up {κ κ' : Fz} (h : Fz.le κ κ') {v : Value} {q : Str × List Nat} (x : Te κ v q) : Te κ' v q := let ⟨a, o, t, u, e, f, g⟩ := x; ⟨a, o, t, u, e, h _ _ f, g⟩
theorem c_join {g0 : Heap} {P : Addr} {w : World} {A : Around} {s : Shared} {n : Nat} {Q : Value → Shared → Prop} (G : GW w g0 P) (I : Inv g0 P s) (r : Rm A (n + 3)) {a : Addr} {lo : Obj} {its : Array Value} {told : List (Str × List Nat)} {κ : Fz}
    (hκ : ∀ b o, κ b = some o → s.heap.get? b = some o ∧ b ≠ P) (hl : s.heap.get? a = some lo) (haP : a ≠ P) (hlo : LstO lo its) (ht : All2 (Te κ) its.toList told) (hz : (joinV (Str.ofString "") told).length ≤ 16777216)
    (h : ∀ t' s', Pres P [] s s' → Inv g0 P s' → Q (.str (S (joinV (Str.ofString "") told)) t') s') : wpAny (model PG w) A (call (.ref 803) [.ref a]) Q NoE s := by
  refine' enter (binds := [("told", .ref a)]) (m := [("told", .ref a)]) (Ds := []) G I r [] (by simp) (by simp) ?ho ?hcd ?hbind ?hm ?hDs ?body ?hloc ?hcell ?hco ?hgen ?hk
  walk_at "in"
  intro c φ s₁ e1 e2 e3 eD hφ H r; subst e1 e2 e3
  have le : Fz.le κ φ := fun b o e => (hφ b o).mpr ⟨(hκ b o e).1, by simp, (hκ b o e).2⟩
  have hla : φ a = some lo := (hφ a lo).mpr ⟨hl, by simp, haP⟩
  have e4 : Str.ofString "" = S [] := by decide +kernel
  have e59 : Str.ofString ";" = S [59] := by decide +kernel
  have mk : ∀ {A' : Around} {s' : Shared} {m' : List (Str × Value)} {R' : List (Addr × Obj)} {Q' : Value → Shared → Prop} {l k : Str} {p : List Nat} {t1 t2 t3 : Tok} {φ : Fz}, Rm A' (n + 2) → St c φ m' R' s' → p.length ≤ 16777216 → (∀ t' s'', St c φ m' R' s'' → Q' (.str (S (markV l k p)) t') s'') →
      wpAny (model PG w) A' (call (.ref 796) [.str l t1, .str k t2, .str (S p) t3]) Q' NoE s' := fun r' H' hp h' => c_mark G H'.inv r' hp fun t' s'' pr I' => h' t' s'' (H'.call0 pr I')
  repeat' (first | walk_at "s" | walk_at "call" | (refine ite_two ?_ ?_ <;> intro hc))
  have J0 : ∀ (t0 t1 : Tok) (m : List (Str × Value)), ∃ t2 t3, Lk ((Str.ofString "last", Value.str (Str.ofString "") t1) :: (Str.ofString "text", Value.str (Str.ofString "") t0) :: m) (Str.ofString "text") (.str (S []) t2) ∧ Lk ((Str.ofString "last", Value.str (Str.ofString "") t1) :: (Str.ofString "text", Value.str (Str.ofString "") t0) :: m) (Str.ofString "last") (.str (Str.ofString "") t3) := fun t0 t1 m => ⟨t0, t1, Lk.there (by decide +kernel) (by rw [← e4]; exact Lk.here), Lk.here⟩
  obtain ⟨t2, t3, k1, k2⟩ := J0 _ _ _
  refine r_for_list (J := fun i φ' m' R' => φ' = φ ∧ R' = [] ∧ ∃ X t1 t2, Lk m' (Str.ofString "text") (.str (S X) t1) ∧ Lk m' (Str.ofString "last") (.str (lastK (Str.ofString "") (told.take i)) t2) ∧ X = joinV (Str.ofString "") (told.take i)) r.hh (by assumption) hla hlo ⟨rfl, rfl, [], _, _, k1, k2, rfl⟩ ?_ ?_
  · rintro i φ' m' R' z s2 hi ⟨rfl, rfl, X, t1, t4, hX, hL, rfl⟩ _ H2
    have hlen := ht.length
    have hi2 : i < told.length := by rw [← hlen]; simpa using hi
    obtain ⟨x, o, t5, t6, ex, hx, hT⟩ := ht.get i (by simpa using hi) hi2
    have ex : its[i] = .ref x := by simpa using ex
    rw [ex]
    have hT' : s2.heap.IsTuple x _ := H2.fzTup (le _ _ hx) hT
    have hsp : told = told.take i ++ told[i] :: told.drop (i + 1) := by rw [← List.drop_eq_getElem_cons hi2, List.take_append_drop]
    have htk : told.take (i + 1) = told.take i ++ [told[i]] := by rw [List.take_succ_eq_append_getElem hi2]
    have hb : (joinV (Str.ofString "") (told.take i)).length + ((markV (lastK (Str.ofString "") (told.take i)) told[i].1 told[i].2).length + told[i].2.length + (isDecl told[i].1).length) ≤ 16777216 := by
      rw [hsp, joinV_append] at hz
      simp only [joinV, List.length_append] at hz
      lia
    obtain ⟨kk, pp, hkp⟩ : ∃ kk pp, told[i] = (kk, pp) := ⟨_, _, rfl⟩
    rw [hkp] at hb htk hT'
    clear hT
    dsimp only at hb hT'
    have hsl := sizeLine_eq
    have key : joinV (Str.ofString "") (told.take (i + 1)) = joinV (Str.ofString "") (told.take i) ++ (markV (lastK (Str.ofString "") (told.take i)) kk pp ++ pp) ++ isDecl kk := by
      rw [htk, joinV_append]; simp [joinV]
    have keyL : lastK (Str.ofString "") (told.take (i + 1)) = kk := by rw [htk, lastK_append]; rfl
    clear hsp htk
    repeat' (first
      | walk_at "s"
      | walk_at "call"
      | (refine ite_two ?_ ?_ <;> intro hc)
      | ((with_reducible refine r_iadd_str (by with_reducible assumption) ?hz ?_); (case hz => (simp only [e59, S_append, S_length, List.length_append, List.length_cons, List.length_nil]; first | lia | ((rw [show (isDecl kk).length = 1 by unfold isDecl; rw [if_pos (by assumption)]; rfl] at hb); lia))); intro _ _ _)
      | ((with_reducible refine r_add_str (by with_reducible assumption) ?hz ?_); (case hz => (simp only [e59, S_append, S_length, List.length_append, List.length_cons, List.length_nil]; first | lia | ((rw [show (isDecl kk).length = 1 by unfold isDecl; rw [if_pos (by assumption)]; rfl] at hb); lia))); intro _ _ _)
      | ((with_reducible refine' mk (by with_reducible assumption) (by with_reducible assumption) ?hp ?_); (case hp => lia); intro _ _ _))
    · have hd : isDecl kk = [59] := by unfold isDecl; rw [if_pos hc]
      have T1 : S (joinV (Str.ofString "") (told.take i)) ++ (S (markV (lastK (Str.ofString "") (told.take i)) kk pp) ++ S pp) ++ Str.ofString ";" = S (joinV (Str.ofString "") (told.take (i + 1))) := by rw [key, hd, e59, S_append, S_append, S_append]
      exact ⟨φ', _, [], by assumption, Fz.le_refl _, rfl, rfl, _, _, _, Lk.there (by decide +kernel) (by rw [← T1]; exact Lk.here), by rw [keyL]; exact Lk.here, rfl⟩
    · have hd : isDecl kk = [] := by unfold isDecl; rw [if_neg hc]
      have T1 : S (joinV (Str.ofString "") (told.take i)) ++ (S (markV (lastK (Str.ofString "") (told.take i)) kk pp) ++ S pp) = S (joinV (Str.ofString "") (told.take (i + 1))) := by rw [key, hd, S_append, S_append, List.append_nil]
      exact ⟨φ', _, [], by assumption, Fz.le_refl _, rfl, rfl, _, _, _, Lk.there (by decide +kernel) (by rw [← T1]; exact Lk.here), by rw [keyL]; exact Lk.here, rfl⟩
  · rintro φ' m' R' s2 ⟨rfl, rfl, X, t1, t4, hX, hL, rfl⟩ _ H2
    have hlen := ht.length
    rw [show told.take its.size = told from List.take_of_length_le (by rw [← hlen]; simp)] at hX
    repeat' (first | walk_at "s" | walk_at "call" | (refine ite_two ?_ ?_ <;> intro hc))
    exact h _ _ (St.done (by assumption) eD) (St.inv (by assumption))
theorem fetch2 {K : Frag} {a : Value} {x : Str} {v : Value} {p : Value → Prop} (h : findIn K a x = some (some v)) (g : p v) : ∃ v, findIn K a x = some (some v) ∧ p v := ⟨v, h, g⟩
theorem cls_ParseError (w : World) : Cls (KF w.params) 117 113 (Str.ofString "error") := by
  have h1 : ∃ o, (KF w.params).lookup 117 = some o ∧ ∃ cd, o.data = .cls cd ∧ cd.hasDict = false := by
    refine' fetch ?h ?g
    case h => k_is
    case g => exact ⟨_, rfl, rfl⟩
  have h2 : ∃ v, findIn (KF w.params) (.ref 117) "type" = some (some v) ∧ ∃ tok, v = .str (Str.ofString "error") tok ∧ specialIn (KF w.params) (.str (Str.ofString "error") tok) "__get__" = some none := by
    refine' fetch2 ?h ?g
    case h => k_is
    case g => exact ⟨_, rfl, by k_is⟩
  obtain ⟨o, a1, cd, a2, a3⟩ := h1
  obtain ⟨v, b1, tok, rfl, b2⟩ := h2
  refine' Cls.mk ?gt ⟨o, cd, a1, a2, a3⟩ ⟨tok, b1, b2⟩ ?gm ?fm ?isf ?gs ?fs ?isf2 ?kp ?kp2 ⟨?f1, ?f2, ?f3, ?f4, ?f5, ?f6⟩ ?a ?b
  case a => exact .inr ⟨by decide, by k_is, by k_is, by k_is⟩
  case b => exact .inl rfl
  all_goals k_is
theorem cls_Comment (w : World) : Cls (KF w.params) 147 143 (Str.ofString "comment") := by
  have h1 : ∃ o, (KF w.params).lookup 147 = some o ∧ ∃ cd, o.data = .cls cd ∧ cd.hasDict = false := by
    refine' fetch ?h ?g
    case h => k_is
    case g => exact ⟨_, rfl, rfl⟩
  have h2 : ∃ v, findIn (KF w.params) (.ref 147) "type" = some (some v) ∧ ∃ tok, v = .str (Str.ofString "comment") tok ∧ specialIn (KF w.params) (.str (Str.ofString "comment") tok) "__get__" = some none := by
    refine' fetch2 ?h ?g
    case h => k_is
    case g => exact ⟨_, rfl, by k_is⟩
  obtain ⟨o, a1, cd, a2, a3⟩ := h1
  obtain ⟨v, b1, tok, rfl, b2⟩ := h2
  refine' Cls.mk ?gt ⟨o, cd, a1, a2, a3⟩ ⟨tok, b1, b2⟩ ?gm ?fm ?isf ?gs ?fs ?isf2 ?kp ?kp2 ⟨?f1, ?f2, ?f3, ?f4, ?f5, ?f6⟩ ?a ?b
  case a => exact .inr ⟨by decide, by k_is, by k_is, by k_is⟩
  case b => exact .inr ⟨by decide, by k_is, by k_is, by k_is⟩
  all_goals k_is
theorem cls_White (w : World) : Cls (KF w.params) 176 172 (Str.ofString "whitespace") := by
  have h1 : ∃ o, (KF w.params).lookup 176 = some o ∧ ∃ cd, o.data = .cls cd ∧ cd.hasDict = false := by
    refine' fetch ?h ?g
    case h => k_is
    case g => exact ⟨_, rfl, rfl⟩
  have h2 : ∃ v, findIn (KF w.params) (.ref 176) "type" = some (some v) ∧ ∃ tok, v = .str (Str.ofString "whitespace") tok ∧ specialIn (KF w.params) (.str (Str.ofString "whitespace") tok) "__get__" = some none := by
    refine' fetch2 ?h ?g
    case h => k_is
    case g => exact ⟨_, rfl, by k_is⟩
  obtain ⟨o, a1, cd, a2, a3⟩ := h1
  obtain ⟨v, b1, tok, rfl, b2⟩ := h2
  refine' Cls.mk ?gt ⟨o, cd, a1, a2, a3⟩ ⟨tok, b1, b2⟩ ?gm ?fm ?isf ?gs ?fs ?isf2 ?kp ?kp2 ⟨?f1, ?f2, ?f3, ?f4, ?f5, ?f6⟩ ?a ?b
  case a => exact .inr ⟨by decide, by k_is, by k_is, by k_is⟩
  case b => exact .inr ⟨by decide, by k_is, by k_is, by k_is⟩
  all_goals k_is
theorem cls_Literal (w : World) : Cls (KF w.params) 219 215 (Str.ofString "literal") := by
  have h1 : ∃ o, (KF w.params).lookup 219 = some o ∧ ∃ cd, o.data = .cls cd ∧ cd.hasDict = false := by
    refine' fetch ?h ?g
    case h => k_is
    case g => exact ⟨_, rfl, rfl⟩
  have h2 : ∃ v, findIn (KF w.params) (.ref 219) "type" = some (some v) ∧ ∃ tok, v = .str (Str.ofString "literal") tok ∧ specialIn (KF w.params) (.str (Str.ofString "literal") tok) "__get__" = some none := by
    refine' fetch2 ?h ?g
    case h => k_is
    case g => exact ⟨_, rfl, by k_is⟩
  obtain ⟨o, a1, cd, a2, a3⟩ := h1
  obtain ⟨v, b1, tok, rfl, b2⟩ := h2
  refine' Cls.mk ?gt ⟨o, cd, a1, a2, a3⟩ ⟨tok, b1, b2⟩ ?gm ?fm ?isf ?gs ?fs ?isf2 ?kp ?kp2 ⟨?f1, ?f2, ?f3, ?f4, ?f5, ?f6⟩ ?a ?b
  case a => exact .inr ⟨by decide, by k_is, by k_is, by k_is⟩
  case b => exact .inr ⟨by decide, by k_is, by k_is, by k_is⟩
  all_goals k_is
theorem cls_Ident (w : World) : Cls (KF w.params) 248 244 (Str.ofString "ident") := by
  have h1 : ∃ o, (KF w.params).lookup 248 = some o ∧ ∃ cd, o.data = .cls cd ∧ cd.hasDict = false := by
    refine' fetch ?h ?g
    case h => k_is
    case g => exact ⟨_, rfl, rfl⟩
  have h2 : ∃ v, findIn (KF w.params) (.ref 248) "type" = some (some v) ∧ ∃ tok, v = .str (Str.ofString "ident") tok ∧ specialIn (KF w.params) (.str (Str.ofString "ident") tok) "__get__" = some none := by
    refine' fetch2 ?h ?g
    case h => k_is
    case g => exact ⟨_, rfl, by k_is⟩
  obtain ⟨o, a1, cd, a2, a3⟩ := h1
  obtain ⟨v, b1, tok, rfl, b2⟩ := h2
  refine' Cls.mk ?gt ⟨o, cd, a1, a2, a3⟩ ⟨tok, b1, b2⟩ ?gm ?fm ?isf ?gs ?fs ?isf2 ?kp ?kp2 ⟨?f1, ?f2, ?f3, ?f4, ?f5, ?f6⟩ ?a ?b
  case a => exact .inr ⟨by decide, by k_is, by k_is, by k_is⟩
  case b => exact .inr ⟨by decide, by k_is, by k_is, by k_is⟩
  all_goals k_is
theorem cls_AtKeyword (w : World) : Cls (KF w.params) 278 274 (Str.ofString "at-keyword") := by
  have h1 : ∃ o, (KF w.params).lookup 278 = some o ∧ ∃ cd, o.data = .cls cd ∧ cd.hasDict = false := by
    refine' fetch ?h ?g
    case h => k_is
    case g => exact ⟨_, rfl, rfl⟩
  have h2 : ∃ v, findIn (KF w.params) (.ref 278) "type" = some (some v) ∧ ∃ tok, v = .str (Str.ofString "at-keyword") tok ∧ specialIn (KF w.params) (.str (Str.ofString "at-keyword") tok) "__get__" = some none := by
    refine' fetch2 ?h ?g
    case h => k_is
    case g => exact ⟨_, rfl, by k_is⟩
  obtain ⟨o, a1, cd, a2, a3⟩ := h1
  obtain ⟨v, b1, tok, rfl, b2⟩ := h2
  refine' Cls.mk ?gt ⟨o, cd, a1, a2, a3⟩ ⟨tok, b1, b2⟩ ?gm ?fm ?isf ?gs ?fs ?isf2 ?kp ?kp2 ⟨?f1, ?f2, ?f3, ?f4, ?f5, ?f6⟩ ?a ?b
  case a => exact .inr ⟨by decide, by k_is, by k_is, by k_is⟩
  case b => exact .inr ⟨by decide, by k_is, by k_is, by k_is⟩
  all_goals k_is
theorem cls_Hash (w : World) : Cls (KF w.params) 308 304 (Str.ofString "hash") := by
  have h1 : ∃ o, (KF w.params).lookup 308 = some o ∧ ∃ cd, o.data = .cls cd ∧ cd.hasDict = false := by
    refine' fetch ?h ?g
    case h => k_is
    case g => exact ⟨_, rfl, rfl⟩
  have h2 : ∃ v, findIn (KF w.params) (.ref 308) "type" = some (some v) ∧ ∃ tok, v = .str (Str.ofString "hash") tok ∧ specialIn (KF w.params) (.str (Str.ofString "hash") tok) "__get__" = some none := by
    refine' fetch2 ?h ?g
    case h => k_is
    case g => exact ⟨_, rfl, by k_is⟩
  obtain ⟨o, a1, cd, a2, a3⟩ := h1
  obtain ⟨v, b1, tok, rfl, b2⟩ := h2
  refine' Cls.mk ?gt ⟨o, cd, a1, a2, a3⟩ ⟨tok, b1, b2⟩ ?gm ?fm ?isf ?gs ?fs ?isf2 ?kp ?kp2 ⟨?f1, ?f2, ?f3, ?f4, ?f5, ?f6⟩ ?a ?b
  case a => exact .inr ⟨by decide, by k_is, by k_is, by k_is⟩
  case b => exact .inr ⟨by decide, by k_is, by k_is, by k_is⟩
  all_goals k_is
theorem cls_String (w : World) : Cls (KF w.params) 338 334 (Str.ofString "string") := by
  have h1 : ∃ o, (KF w.params).lookup 338 = some o ∧ ∃ cd, o.data = .cls cd ∧ cd.hasDict = false := by
    refine' fetch ?h ?g
    case h => k_is
    case g => exact ⟨_, rfl, rfl⟩
  have h2 : ∃ v, findIn (KF w.params) (.ref 338) "type" = some (some v) ∧ ∃ tok, v = .str (Str.ofString "string") tok ∧ specialIn (KF w.params) (.str (Str.ofString "string") tok) "__get__" = some none := by
    refine' fetch2 ?h ?g
    case h => k_is
    case g => exact ⟨_, rfl, by k_is⟩
  obtain ⟨o, a1, cd, a2, a3⟩ := h1
  obtain ⟨v, b1, tok, rfl, b2⟩ := h2
  refine' Cls.mk ?gt ⟨o, cd, a1, a2, a3⟩ ⟨tok, b1, b2⟩ ?gm ?fm ?isf ?gs ?fs ?isf2 ?kp ?kp2 ⟨?f1, ?f2, ?f3, ?f4, ?f5, ?f6⟩ ?a ?b
  case a => exact .inr ⟨by decide, by k_is, by k_is, by k_is⟩
  case b => exact .inr ⟨by decide, by k_is, by k_is, by k_is⟩
  all_goals k_is
theorem cls_URL (w : World) : Cls (KF w.params) 368 364 (Str.ofString "url") := by
  have h1 : ∃ o, (KF w.params).lookup 368 = some o ∧ ∃ cd, o.data = .cls cd ∧ cd.hasDict = false := by
    refine' fetch ?h ?g
    case h => k_is
    case g => exact ⟨_, rfl, rfl⟩
  have h2 : ∃ v, findIn (KF w.params) (.ref 368) "type" = some (some v) ∧ ∃ tok, v = .str (Str.ofString "url") tok ∧ specialIn (KF w.params) (.str (Str.ofString "url") tok) "__get__" = some none := by
    refine' fetch2 ?h ?g
    case h => k_is
    case g => exact ⟨_, rfl, by k_is⟩
  obtain ⟨o, a1, cd, a2, a3⟩ := h1
  obtain ⟨v, b1, tok, rfl, b2⟩ := h2
  refine' Cls.mk ?gt ⟨o, cd, a1, a2, a3⟩ ⟨tok, b1, b2⟩ ?gm ?fm ?isf ?gs ?fs ?isf2 ?kp ?kp2 ⟨?f1, ?f2, ?f3, ?f4, ?f5, ?f6⟩ ?a ?b
  case a => exact .inr ⟨by decide, by k_is, by k_is, by k_is⟩
  case b => exact .inr ⟨by decide, by k_is, by k_is, by k_is⟩
  all_goals k_is
theorem cls_Range (w : World) : Cls (KF w.params) 398 394 (Str.ofString "unicode-range") := by
  have h1 : ∃ o, (KF w.params).lookup 398 = some o ∧ ∃ cd, o.data = .cls cd ∧ cd.hasDict = false := by
    refine' fetch ?h ?g
    case h => k_is
    case g => exact ⟨_, rfl, rfl⟩
  have h2 : ∃ v, findIn (KF w.params) (.ref 398) "type" = some (some v) ∧ ∃ tok, v = .str (Str.ofString "unicode-range") tok ∧ specialIn (KF w.params) (.str (Str.ofString "unicode-range") tok) "__get__" = some none := by
    refine' fetch2 ?h ?g
    case h => k_is
    case g => exact ⟨_, rfl, by k_is⟩
  obtain ⟨o, a1, cd, a2, a3⟩ := h1
  obtain ⟨v, b1, tok, rfl, b2⟩ := h2
  refine' Cls.mk ?gt ⟨o, cd, a1, a2, a3⟩ ⟨tok, b1, b2⟩ ?gm ?fm ?isf ?gs ?fs ?isf2 ?kp ?kp2 ⟨?f1, ?f2, ?f3, ?f4, ?f5, ?f6⟩ ?a ?b
  case a => exact .inr ⟨by decide, by k_is, by k_is, by k_is⟩
  case b => exact .inr ⟨by decide, by k_is, by k_is, by k_is⟩
  all_goals k_is
theorem cls_Number (w : World) : Cls (KF w.params) 428 424 (Str.ofString "number") := by
  have h1 : ∃ o, (KF w.params).lookup 428 = some o ∧ ∃ cd, o.data = .cls cd ∧ cd.hasDict = false := by
    refine' fetch ?h ?g
    case h => k_is
    case g => exact ⟨_, rfl, rfl⟩
  have h2 : ∃ v, findIn (KF w.params) (.ref 428) "type" = some (some v) ∧ ∃ tok, v = .str (Str.ofString "number") tok ∧ specialIn (KF w.params) (.str (Str.ofString "number") tok) "__get__" = some none := by
    refine' fetch2 ?h ?g
    case h => k_is
    case g => exact ⟨_, rfl, by k_is⟩
  obtain ⟨o, a1, cd, a2, a3⟩ := h1
  obtain ⟨v, b1, tok, rfl, b2⟩ := h2
  refine' Cls.mk ?gt ⟨o, cd, a1, a2, a3⟩ ⟨tok, b1, b2⟩ ?gm ?fm ?isf ?gs ?fs ?isf2 ?kp ?kp2 ⟨?f1, ?f2, ?f3, ?f4, ?f5, ?f6⟩ ?a ?b
  case a => exact .inr ⟨by decide, by k_is, by k_is, by k_is⟩
  case b => exact .inr ⟨by decide, by k_is, by k_is, by k_is⟩
  all_goals k_is
theorem cls_Percentage (w : World) : Cls (KF w.params) 460 456 (Str.ofString "percentage") := by
  have h1 : ∃ o, (KF w.params).lookup 460 = some o ∧ ∃ cd, o.data = .cls cd ∧ cd.hasDict = false := by
    refine' fetch ?h ?g
    case h => k_is
    case g => exact ⟨_, rfl, rfl⟩
  have h2 : ∃ v, findIn (KF w.params) (.ref 460) "type" = some (some v) ∧ ∃ tok, v = .str (Str.ofString "percentage") tok ∧ specialIn (KF w.params) (.str (Str.ofString "percentage") tok) "__get__" = some none := by
    refine' fetch2 ?h ?g
    case h => k_is
    case g => exact ⟨_, rfl, by k_is⟩
  obtain ⟨o, a1, cd, a2, a3⟩ := h1
  obtain ⟨v, b1, tok, rfl, b2⟩ := h2
  refine' Cls.mk ?gt ⟨o, cd, a1, a2, a3⟩ ⟨tok, b1, b2⟩ ?gm ?fm ?isf ?gs ?fs ?isf2 ?kp ?kp2 ⟨?f1, ?f2, ?f3, ?f4, ?f5, ?f6⟩ ?a ?b
  case a => exact .inr ⟨by decide, by k_is, by k_is, by k_is⟩
  case b => exact .inr ⟨by decide, by k_is, by k_is, by k_is⟩
  all_goals k_is
theorem cls_Dimension (w : World) : Cls (KF w.params) 492 488 (Str.ofString "dimension") := by
  have h1 : ∃ o, (KF w.params).lookup 492 = some o ∧ ∃ cd, o.data = .cls cd ∧ cd.hasDict = false := by
    refine' fetch ?h ?g
    case h => k_is
    case g => exact ⟨_, rfl, rfl⟩
  have h2 : ∃ v, findIn (KF w.params) (.ref 492) "type" = some (some v) ∧ ∃ tok, v = .str (Str.ofString "dimension") tok ∧ specialIn (KF w.params) (.str (Str.ofString "dimension") tok) "__get__" = some none := by
    refine' fetch2 ?h ?g
    case h => k_is
    case g => exact ⟨_, rfl, by k_is⟩
  obtain ⟨o, a1, cd, a2, a3⟩ := h1
  obtain ⟨v, b1, tok, rfl, b2⟩ := h2
  refine' Cls.mk ?gt ⟨o, cd, a1, a2, a3⟩ ⟨tok, b1, b2⟩ ?gm ?fm ?isf ?gs ?fs ?isf2 ?kp ?kp2 ⟨?f1, ?f2, ?f3, ?f4, ?f5, ?f6⟩ ?a ?b
  case a => exact .inr ⟨by decide, by k_is, by k_is, by k_is⟩
  case b => exact .inr ⟨by decide, by k_is, by k_is, by k_is⟩
  all_goals k_is
theorem cls_Paren (w : World) : Cls (KF w.params) 526 522 (Str.ofString "() block") := by
  have h1 : ∃ o, (KF w.params).lookup 526 = some o ∧ ∃ cd, o.data = .cls cd ∧ cd.hasDict = false := by
    refine' fetch ?h ?g
    case h => k_is
    case g => exact ⟨_, rfl, rfl⟩
  have h2 : ∃ v, findIn (KF w.params) (.ref 526) "type" = some (some v) ∧ ∃ tok, v = .str (Str.ofString "() block") tok ∧ specialIn (KF w.params) (.str (Str.ofString "() block") tok) "__get__" = some none := by
    refine' fetch2 ?h ?g
    case h => k_is
    case g => exact ⟨_, rfl, by k_is⟩
  obtain ⟨o, a1, cd, a2, a3⟩ := h1
  obtain ⟨v, b1, tok, rfl, b2⟩ := h2
  refine' Cls.mk ?gt ⟨o, cd, a1, a2, a3⟩ ⟨tok, b1, b2⟩ ?gm ?fm ?isf ?gs ?fs ?isf2 ?kp ?kp2 ⟨?f1, ?f2, ?f3, ?f4, ?f5, ?f6⟩ ?a ?b
  case a => exact .inr ⟨by decide, by k_is, by k_is, by k_is⟩
  case b => exact .inr ⟨by decide, by k_is, by k_is, by k_is⟩
  all_goals k_is
theorem cls_Square (w : World) : Cls (KF w.params) 555 551 (Str.ofString "[] block") := by
  have h1 : ∃ o, (KF w.params).lookup 555 = some o ∧ ∃ cd, o.data = .cls cd ∧ cd.hasDict = false := by
    refine' fetch ?h ?g
    case h => k_is
    case g => exact ⟨_, rfl, rfl⟩
  have h2 : ∃ v, findIn (KF w.params) (.ref 555) "type" = some (some v) ∧ ∃ tok, v = .str (Str.ofString "[] block") tok ∧ specialIn (KF w.params) (.str (Str.ofString "[] block") tok) "__get__" = some none := by
    refine' fetch2 ?h ?g
    case h => k_is
    case g => exact ⟨_, rfl, by k_is⟩
  obtain ⟨o, a1, cd, a2, a3⟩ := h1
  obtain ⟨v, b1, tok, rfl, b2⟩ := h2
  refine' Cls.mk ?gt ⟨o, cd, a1, a2, a3⟩ ⟨tok, b1, b2⟩ ?gm ?fm ?isf ?gs ?fs ?isf2 ?kp ?kp2 ⟨?f1, ?f2, ?f3, ?f4, ?f5, ?f6⟩ ?a ?b
  case a => exact .inr ⟨by decide, by k_is, by k_is, by k_is⟩
  case b => exact .inr ⟨by decide, by k_is, by k_is, by k_is⟩
  all_goals k_is
theorem cls_Curly (w : World) : Cls (KF w.params) 584 580 (Str.ofString "{} block") := by
  have h1 : ∃ o, (KF w.params).lookup 584 = some o ∧ ∃ cd, o.data = .cls cd ∧ cd.hasDict = false := by
    refine' fetch ?h ?g
    case h => k_is
    case g => exact ⟨_, rfl, rfl⟩
  have h2 : ∃ v, findIn (KF w.params) (.ref 584) "type" = some (some v) ∧ ∃ tok, v = .str (Str.ofString "{} block") tok ∧ specialIn (KF w.params) (.str (Str.ofString "{} block") tok) "__get__" = some none := by
    refine' fetch2 ?h ?g
    case h => k_is
    case g => exact ⟨_, rfl, by k_is⟩
  obtain ⟨o, a1, cd, a2, a3⟩ := h1
  obtain ⟨v, b1, tok, rfl, b2⟩ := h2
  refine' Cls.mk ?gt ⟨o, cd, a1, a2, a3⟩ ⟨tok, b1, b2⟩ ?gm ?fm ?isf ?gs ?fs ?isf2 ?kp ?kp2 ⟨?f1, ?f2, ?f3, ?f4, ?f5, ?f6⟩ ?a ?b
  case a => exact .inr ⟨by decide, by k_is, by k_is, by k_is⟩
  case b => exact .inr ⟨by decide, by k_is, by k_is, by k_is⟩
  all_goals k_is
theorem cls_Function (w : World) : Cls (KF w.params) 613 609 (Str.ofString "function") := by
  have h1 : ∃ o, (KF w.params).lookup 613 = some o ∧ ∃ cd, o.data = .cls cd ∧ cd.hasDict = false := by
    refine' fetch ?h ?g
    case h => k_is
    case g => exact ⟨_, rfl, rfl⟩
  have h2 : ∃ v, findIn (KF w.params) (.ref 613) "type" = some (some v) ∧ ∃ tok, v = .str (Str.ofString "function") tok ∧ specialIn (KF w.params) (.str (Str.ofString "function") tok) "__get__" = some none := by
    refine' fetch2 ?h ?g
    case h => k_is
    case g => exact ⟨_, rfl, by k_is⟩
  obtain ⟨o, a1, cd, a2, a3⟩ := h1
  obtain ⟨v, b1, tok, rfl, b2⟩ := h2
  refine' Cls.mk ?gt ⟨o, cd, a1, a2, a3⟩ ⟨tok, b1, b2⟩ ?gm ?fm ?isf ?gs ?fs ?isf2 ?kp ?kp2 ⟨?f1, ?f2, ?f3, ?f4, ?f5, ?f6⟩ ?a ?b
  case a => exact .inl rfl
  case b => exact .inr ⟨by decide, by k_is, by k_is, by k_is⟩
  all_goals k_is
theorem cls_Declaration (w : World) : Cls (KF w.params) 644 640 (Str.ofString "declaration") := by
  have h1 : ∃ o, (KF w.params).lookup 644 = some o ∧ ∃ cd, o.data = .cls cd ∧ cd.hasDict = false := by
    refine' fetch ?h ?g
    case h => k_is
    case g => exact ⟨_, rfl, rfl⟩
  have h2 : ∃ v, findIn (KF w.params) (.ref 644) "type" = some (some v) ∧ ∃ tok, v = .str (Str.ofString "declaration") tok ∧ specialIn (KF w.params) (.str (Str.ofString "declaration") tok) "__get__" = some none := by
    refine' fetch2 ?h ?g
    case h => k_is
    case g => exact ⟨_, rfl, by k_is⟩
  obtain ⟨o, a1, cd, a2, a3⟩ := h1
  obtain ⟨v, b1, tok, rfl, b2⟩ := h2
  refine' Cls.mk ?gt ⟨o, cd, a1, a2, a3⟩ ⟨tok, b1, b2⟩ ?gm ?fm ?isf ?gs ?fs ?isf2 ?kp ?kp2 ⟨?f1, ?f2, ?f3, ?f4, ?f5, ?f6⟩ ?a ?b
  case a => exact .inr ⟨by decide, by k_is, by k_is, by k_is⟩
  case b => exact .inr ⟨by decide, by k_is, by k_is, by k_is⟩
  all_goals k_is
theorem cls_Rule (w : World) : Cls (KF w.params) 676 672 (Str.ofString "qualified-rule") := by
  have h1 : ∃ o, (KF w.params).lookup 676 = some o ∧ ∃ cd, o.data = .cls cd ∧ cd.hasDict = false := by
    refine' fetch ?h ?g
    case h => k_is
    case g => exact ⟨_, rfl, rfl⟩
  have h2 : ∃ v, findIn (KF w.params) (.ref 676) "type" = some (some v) ∧ ∃ tok, v = .str (Str.ofString "qualified-rule") tok ∧ specialIn (KF w.params) (.str (Str.ofString "qualified-rule") tok) "__get__" = some none := by
    refine' fetch2 ?h ?g
    case h => k_is
    case g => exact ⟨_, rfl, by k_is⟩
  obtain ⟨o, a1, cd, a2, a3⟩ := h1
  obtain ⟨v, b1, tok, rfl, b2⟩ := h2
  refine' Cls.mk ?gt ⟨o, cd, a1, a2, a3⟩ ⟨tok, b1, b2⟩ ?gm ?fm ?isf ?gs ?fs ?isf2 ?kp ?kp2 ⟨?f1, ?f2, ?f3, ?f4, ?f5, ?f6⟩ ?a ?b
  case a => exact .inr ⟨by decide, by k_is, by k_is, by k_is⟩
  case b => exact .inr ⟨by decide, by k_is, by k_is, by k_is⟩
  all_goals k_is
theorem cls_At (w : World) : Cls (KF w.params) 706 702 (Str.ofString "at-rule") := by
  have h1 : ∃ o, (KF w.params).lookup 706 = some o ∧ ∃ cd, o.data = .cls cd ∧ cd.hasDict = false := by
    refine' fetch ?h ?g
    case h => k_is
    case g => exact ⟨_, rfl, rfl⟩
  have h2 : ∃ v, findIn (KF w.params) (.ref 706) "type" = some (some v) ∧ ∃ tok, v = .str (Str.ofString "at-rule") tok ∧ specialIn (KF w.params) (.str (Str.ofString "at-rule") tok) "__get__" = some none := by
    refine' fetch2 ?h ?g
    case h => k_is
    case g => exact ⟨_, rfl, by k_is⟩
  obtain ⟨o, a1, cd, a2, a3⟩ := h1
  obtain ⟨v, b1, tok, rfl, b2⟩ := h2
  refine' Cls.mk ?gt ⟨o, cd, a1, a2, a3⟩ ⟨tok, b1, b2⟩ ?gm ?fm ?isf ?gs ?fs ?isf2 ?kp ?kp2 ⟨?f1, ?f2, ?f3, ?f4, ?f5, ?f6⟩ ?a ?b
  case a => exact .inr ⟨by decide, by k_is, by k_is, by k_is⟩
  case b => exact .inr ⟨by decide, by k_is, by k_is, by k_is⟩
  all_goals k_is
def p_literals : List Nat → Bool := fun y => decide (y.length ≤ 4)
theorem c_literals {g0 : Heap} {P : Addr} {w : World} {A : Around} {s : Shared} {n : Nat} {Q : Value → Shared → Prop} (G : GW w g0 P) (I : Inv g0 P s) (r : Rm A (n + 1))
    (h : ∀ a o vs s', Pres P [] s s' → Inv g0 P s' → s.heap.get? a = none → g0.objs.size ≤ a → s'.heap.get? a = some o → LstO o vs.toArray → StrsP p_literals vs → vs.length = 20 → Q (.ref a) s') : wpAny (model PG w) A (call (.ref 742) []) Q NoE s := by
  refine' enter (binds := []) (m := []) (Ds := []) G I r [] (by simp) (by simp) ?ho ?hcd ?hbind ?hm ?hDs ?body ?hloc ?hcell ?hco ?hgen ?hk
  walk_at "in"
  intro c φ s₁ e1 e2 e3 eD hφ H r; subst e1 e2 e3
  repeat' (first | walk_at "s" | walk_at "call")
  have HH := ‹St c φ _ [_] _›
  refine h _ _ _ _ (HH.done eD) HH.inv (HH.newL eD (.head _)) (HH.led _ (.head _)).2.2.2 (HH.get 0 rfl) (by with_reducible assumption) ?_ (by rfl)
  repeat' (first | exact StrsP.nil | refine StrsP.cons (by decide +kernel) ?_)
def p_units : List Nat → Bool := fun y => decide (y.length ≤ 4) && decide (y ≠ []) && decide (y.head? ≠ some 69)
theorem c_units {g0 : Heap} {P : Addr} {w : World} {A : Around} {s : Shared} {n : Nat} {Q : Value → Shared → Prop} (G : GW w g0 P) (I : Inv g0 P s) (r : Rm A (n + 1))
    (h : ∀ a o vs s', Pres P [] s s' → Inv g0 P s' → s.heap.get? a = none → g0.objs.size ≤ a → s'.heap.get? a = some o → LstO o vs.toArray → StrsP p_units vs → vs.length = 8 → Q (.ref a) s') : wpAny (model PG w) A (call (.ref 735) []) Q NoE s := by
  refine' enter (binds := []) (m := []) (Ds := []) G I r [] (by simp) (by simp) ?ho ?hcd ?hbind ?hm ?hDs ?body ?hloc ?hcell ?hco ?hgen ?hk
  walk_at "in"
  intro c φ s₁ e1 e2 e3 eD hφ H r; subst e1 e2 e3
  repeat' (first | walk_at "s" | walk_at "call")
  have HH := ‹St c φ _ [_] _›
  refine h _ _ _ _ (HH.done eD) HH.inv (HH.newL eD (.head _)) (HH.led _ (.head _)).2.2.2 (HH.get 0 rfl) (by with_reducible assumption) ?_ (by rfl)
  repeat' (first | exact StrsP.nil | refine StrsP.cons (by decide +kernel) ?_)
def p_calm : List Nat → Bool := fun _ => true
theorem c_calm {g0 : Heap} {P : Addr} {w : World} {A : Around} {s : Shared} {n : Nat} {Q : Value → Shared → Prop} (G : GW w g0 P) (I : Inv g0 P s) (r : Rm A (n + 1))
    (h : ∀ a o vs s', Pres P [] s s' → Inv g0 P s' → s.heap.get? a = none → g0.objs.size ≤ a → s'.heap.get? a = some o → LstO o vs.toArray → StrsP p_calm vs → vs.length = 6 → Q (.ref a) s') : wpAny (model PG w) A (call (.ref 756) []) Q NoE s := by
  refine' enter (binds := []) (m := []) (Ds := []) G I r [] (by simp) (by simp) ?ho ?hcd ?hbind ?hm ?hDs ?body ?hloc ?hcell ?hco ?hgen ?hk
  walk_at "in"
  intro c φ s₁ e1 e2 e3 eD hφ H r; subst e1 e2 e3
  repeat' (first | walk_at "s" | walk_at "call")
  have HH := ‹St c φ _ [_] _›
  refine h _ _ _ _ (HH.done eD) HH.inv (HH.newL eD (.head _)) (HH.led _ (.head _)).2.2.2 (HH.get 0 rfl) (by with_reducible assumption) ?_ (by rfl)
  repeat' (first | exact StrsP.nil | refine StrsP.cons (by decide +kernel) ?_)
/-- one of a list of pairs -/
def Pr (p : Value → Value → Prop) (ψ : Fz) (v : Value) : Prop := ∃ x o u u', v = .ref x ∧ ψ x = some o ∧ TupO o #[u, u'] ∧ p u u'
def pNum (u u' : Value) : Prop := (∃ p t, u = .str (S p) t ∧ p.length ≤ 4) ∧ ((∃ i t, u' = .int i t) ∨ u' = .none)
def pStr (u u' : Value) : Prop := (∃ p t, u = .str (S p) t ∧ p.length ≤ 8) ∧ ∃ p t, u' = .str (S p) t ∧ p.length ≤ 8
theorem str_len {z : Str} {t : Tok} {n : Nat} (h : z.cps.toList.length ≤ n) : ∃ p t', Value.str z t = .str (S p) t' ∧ p.length ≤ n := ⟨_, t, by rw [← S_list], h⟩
theorem c_numbers {g0 : Heap} {P : Addr} {w : World} {A : Around} {s : Shared} {n : Nat} {Q : Value → Shared → Prop} (G : GW w g0 P) (I : Inv g0 P s) (r : Rm A (n + 1))
    (h : ∀ (a : Addr) (o : Obj) (vs : List Value) (ψ : Fz) (s' : Shared), Pres P [] s s' → Inv g0 P s' → Frs s.heap ψ s'.heap → s.heap.get? a = none → ψ a = none → g0.objs.size ≤ a → s'.heap.get? a = some o → LstO o vs.toArray → (∀ v ∈ vs, Pr pNum ψ v) → vs.length = 6 → Q (.ref a) s') : wpAny (model PG w) A (call (.ref 728) []) Q NoE s := by
  refine' enter (binds := []) (m := []) (Ds := []) G I r [] (by simp) (by simp) ?ho ?hcd ?hbind ?hm ?hDs ?body ?hloc ?hcell ?hco ?hgen ?hk
  walk_at "in"
  intro c φ s₁ e1 e2 e3 eD hφ H r; subst e1 e2 e3
  repeat' (first
    | walk_at "s"
    | walk_at "call"
    | ((with_reducible refine' r_neg (by with_reducible assumption) ?_); intro _ _ _))
  have HH := ‹St c φ _ (_ :: _ :: _ :: _ :: _ :: _) _›
  have nd := HH.ord
  have lk : ∀ {R : List (Addr × Obj)} {a : Addr} {o : Obj}, (a, o) ∈ R → (R.map (·.1)).Nodup → R.lookup a = some o := by
    intro R a o hm nd
    induction R with
    | nil => cases hm
    | cons p R ih =>
      rw [List.lookup_cons]
      rw [List.map_cons, List.nodup_cons] at nd
      rcases List.mem_cons.mp hm with rfl | hm
      · simp
      · have : (a == p.1) = false := beq_eq_false_iff_ne.mpr fun e => nd.1 (List.mem_map.mpr ⟨_, hm, e⟩)
        rw [this]; exact ih hm nd.2
  rw [List.map_cons, List.nodup_cons] at nd
  have nl : ∀ {R : List (Addr × Obj)} {a : Addr}, a ∉ R.map (·.1) → R.lookup a = none := by
    intro R a hn
    induction R with
    | nil => rfl
    | cons p R ih =>
      rw [List.map_cons, List.mem_cons, not_or] at hn
      rw [List.lookup_cons, beq_eq_false_iff_ne.mpr hn.1]; exact ih hn.2
  refine h _ _ _ _ _ (HH.done eD) HH.inv (Frs.led HH eD fun p hp => .tail _ hp) (HH.newL eD (.head _)) (nl nd.1) (HH.led _ (.head _)).2.2.2 (HH.get 0 rfl) (by with_reducible assumption) ?_ (by rfl)
  have pr : ∀ {x : Addr} {o : Obj} {u u' : Value} {R : List (Addr × Obj)}, (x, o) ∈ R → (R.map (·.1)).Nodup → TupO o #[u, u'] → pNum u u' → Pr pNum (fun b => R.lookup b) (.ref x) := fun hm nd ht hp => ⟨_, _, _, _, rfl, lk hm nd, ht, hp⟩
  simp only [List.forall_mem_cons, List.not_mem_nil, false_imp_iff, implies_true, and_true]
  repeat' (first | (refine And.intro ?_ ?_) | exact pr (by repeat (first | exact List.Mem.head _ | apply List.Mem.tail)) nd.2 (by with_reducible assumption) ⟨str_len (by decide +kernel), by first | exact .inl ⟨_, _, rfl⟩ | exact .inr rfl⟩)
theorem c_strings {g0 : Heap} {P : Addr} {w : World} {A : Around} {s : Shared} {n : Nat} {Q : Value → Shared → Prop} (G : GW w g0 P) (I : Inv g0 P s) (r : Rm A (n + 1))
    (h : ∀ (a : Addr) (o : Obj) (vs : List Value) (ψ : Fz) (s' : Shared), Pres P [] s s' → Inv g0 P s' → Frs s.heap ψ s'.heap → s.heap.get? a = none → ψ a = none → g0.objs.size ≤ a → s'.heap.get? a = some o → LstO o vs.toArray → (∀ v ∈ vs, Pr pStr ψ v) → vs.length = 4 → Q (.ref a) s') : wpAny (model PG w) A (call (.ref 749) []) Q NoE s := by
  refine' enter (binds := []) (m := []) (Ds := []) G I r [] (by simp) (by simp) ?ho ?hcd ?hbind ?hm ?hDs ?body ?hloc ?hcell ?hco ?hgen ?hk
  walk_at "in"
  intro c φ s₁ e1 e2 e3 eD hφ H r; subst e1 e2 e3
  repeat' (first
    | walk_at "s"
    | walk_at "call"
    | ((with_reducible refine' r_neg (by with_reducible assumption) ?_); intro _ _ _))
  have HH := ‹St c φ _ (_ :: _ :: _ :: _ :: _ :: _) _›
  have nd := HH.ord
  have lk : ∀ {R : List (Addr × Obj)} {a : Addr} {o : Obj}, (a, o) ∈ R → (R.map (·.1)).Nodup → R.lookup a = some o := by
    intro R a o hm nd
    induction R with
    | nil => cases hm
    | cons p R ih =>
      rw [List.lookup_cons]
      rw [List.map_cons, List.nodup_cons] at nd
      rcases List.mem_cons.mp hm with rfl | hm
      · simp
      · have : (a == p.1) = false := beq_eq_false_iff_ne.mpr fun e => nd.1 (List.mem_map.mpr ⟨_, hm, e⟩)
        rw [this]; exact ih hm nd.2
  rw [List.map_cons, List.nodup_cons] at nd
  have nl : ∀ {R : List (Addr × Obj)} {a : Addr}, a ∉ R.map (·.1) → R.lookup a = none := by
    intro R a hn
    induction R with
    | nil => rfl
    | cons p R ih =>
      rw [List.map_cons, List.mem_cons, not_or] at hn
      rw [List.lookup_cons, beq_eq_false_iff_ne.mpr hn.1]; exact ih hn.2
  refine h _ _ _ _ _ (HH.done eD) HH.inv (Frs.led HH eD fun p hp => .tail _ hp) (HH.newL eD (.head _)) (nl nd.1) (HH.led _ (.head _)).2.2.2 (HH.get 0 rfl) (by with_reducible assumption) ?_ (by rfl)
  have pr : ∀ {x : Addr} {o : Obj} {u u' : Value} {R : List (Addr × Obj)}, (x, o) ∈ R → (R.map (·.1)).Nodup → TupO o #[u, u'] → pStr u u' → Pr pStr (fun b => R.lookup b) (.ref x) := fun hm nd ht hp => ⟨_, _, _, _, rfl, lk hm nd, ht, hp⟩
  simp only [List.forall_mem_cons, List.not_mem_nil, false_imp_iff, implies_true, and_true]
  repeat' (first | (refine And.intro ?_ ?_) | exact pr (by repeat (first | exact List.Mem.head _ | apply List.Mem.tail)) nd.2 (by with_reducible assumption) ⟨str_len (by decide +kernel), str_len (by decide +kernel)⟩)
theorem wr_Comment {w : World} {g0 : Heap} {P : Addr} {κ : Fz} {d : Nat} {x dx : Addr} {v1 v2 : Value} {l : List Nat} {t : Tok} (G : GW w g0 P) (hx : κ x = some (ins 147 dx #[some (.str (S l) t), some v2, some v1])) (hdx : κ dx = some emptyDict)  : Wr w g0 P κ d 143 x ([47, 42] ++ l ++ [42, 47]) := by
  refine' Wr.intro G ?ho ?hcd ?hbind ?body ?hloc ?hcell ?hco ?hgen ?hk
  walk_at "inw"
  intro A c φ s₁ b da o k T0 Q e1 e2 le hb hck hz H r fin; subst e1 e2
  have hx := le _ _ hx
  have hdx := le _ _ hdx
  have hz0 : 64 ≤ Zb d := Nat.le_mul_of_pos_right 64 (Nat.pow_pos (by decide))
  have R3 : Rm _ 3 := r.less (by lia)
  repeat' (first
    | walk_at "s"
    | walk_at "call"
    | walk_at "i"
    | (refine ite_two ?_ ?_ <;> intro hc)
    | (exact fin _ _ _ _ _ _ (by with_reducible assumption) (by with_reducible assumption) (by lia) (by (try walk_at "lit"); (try simp [S]))))
theorem wr_White {w : World} {g0 : Heap} {P : Addr} {κ : Fz} {d : Nat} {x dx : Addr} {v1 v2 : Value} {l : List Nat} {t : Tok} (G : GW w g0 P) (hx : κ x = some (ins 176 dx #[some (.str (S l) t), some v2, some v1])) (hdx : κ dx = some emptyDict)  : Wr w g0 P κ d 172 x (l) := by
  refine' Wr.intro G ?ho ?hcd ?hbind ?body ?hloc ?hcell ?hco ?hgen ?hk
  walk_at "inw"
  intro A c φ s₁ b da o k T0 Q e1 e2 le hb hck hz H r fin; subst e1 e2
  have hx := le _ _ hx
  have hdx := le _ _ hdx
  have hz0 : 64 ≤ Zb d := Nat.le_mul_of_pos_right 64 (Nat.pow_pos (by decide))
  have R3 : Rm _ 3 := r.less (by lia)
  repeat' (first
    | walk_at "s"
    | walk_at "call"
    | walk_at "i"
    | (refine ite_two ?_ ?_ <;> intro hc)
    | (exact fin _ _ _ _ _ _ (by with_reducible assumption) (by with_reducible assumption) (by lia) (by (try walk_at "lit"); (try simp [S]))))
theorem wr_Literal {w : World} {g0 : Heap} {P : Addr} {κ : Fz} {d : Nat} {x dx : Addr} {v1 v2 : Value} {l : List Nat} {t : Tok} (G : GW w g0 P) (hx : κ x = some (ins 219 dx #[some (.str (S l) t), some v2, some v1])) (hdx : κ dx = some emptyDict)  : Wr w g0 P κ d 215 x (l) := by
  refine' Wr.intro G ?ho ?hcd ?hbind ?body ?hloc ?hcell ?hco ?hgen ?hk
  walk_at "inw"
  intro A c φ s₁ b da o k T0 Q e1 e2 le hb hck hz H r fin; subst e1 e2
  have hx := le _ _ hx
  have hdx := le _ _ hdx
  have hz0 : 64 ≤ Zb d := Nat.le_mul_of_pos_right 64 (Nat.pow_pos (by decide))
  have R3 : Rm _ 3 := r.less (by lia)
  repeat' (first
    | walk_at "s"
    | walk_at "call"
    | walk_at "i"
    | (refine ite_two ?_ ?_ <;> intro hc)
    | (exact fin _ _ _ _ _ _ (by with_reducible assumption) (by with_reducible assumption) (by lia) (by (try walk_at "lit"); (try simp [S]))))
theorem wr_Ident {w : World} {g0 : Heap} {P : Addr} {κ : Fz} {d : Nat} {x dx : Addr} {v1 v2 : Value} {u1 : Value} {a : Nat} {l : List Nat} {t : Tok} (G : GW w g0 P) (hx : κ x = some (ins 248 dx #[some u1, some (.str (S (a :: l)) t), some v2, some v1])) (hdx : κ dx = some emptyDict) (hl : (a :: l).length ≤ 4096) : Wr w g0 P κ d 244 x (idn (a :: l)) := by
  refine' Wr.intro G ?ho ?hcd ?hbind ?body ?hloc ?hcell ?hco ?hgen ?hk
  walk_at "inw"
  intro A c φ s₁ b da o k T0 Q e1 e2 le hb hck hz H r fin; subst e1 e2
  have hx := le _ _ hx
  have hdx := le _ _ hdx
  have hz0 : 64 ≤ Zb d := Nat.le_mul_of_pos_right 64 (Nat.pow_pos (by decide))
  have R3 : Rm _ 3 := r.less (by lia)
  have sid : ∀ {A' : Around} {φ : Fz} {m' : List (Str × Value)} {R' : List (Addr × Obj)} {s' : Shared} {Q' : Value → Shared → Prop} {a : Nat} {l : List Nat} {t : Tok}, (a :: l).length ≤ 1048576 → Rm A' 3 → St c φ m' R' s' → (∀ t' s'', St c φ m' R' s'' → Q' (.str (S (idn (a :: l))) t') s'') → wpAny (model PG w) A' (call (.ref 28) [.str (S (a :: l)) t]) Q' NoE s' :=
    fun hl r' H' h' => c_ident (n := 1) G H'.inv r' hl fun t' s'' pr I' => h' t' s'' (H'.call0 pr I')
  repeat' (first
    | walk_at "s"
    | walk_at "call"
    | walk_at "i"
    | (refine ite_two ?_ ?_ <;> intro hc)
    | ((with_reducible refine' sid ?hl R3 (by with_reducible assumption) ?_); (case hl => walk_at "len"); intro _ _ _)
    | (exact fin _ _ _ _ _ _ (by with_reducible assumption) (by with_reducible assumption) (by lia) (by (try walk_at "lit"); (try simp [S]))))
theorem wr_AtKeyword {w : World} {g0 : Heap} {P : Addr} {κ : Fz} {d : Nat} {x dx : Addr} {v1 v2 : Value} {u1 : Value} {a : Nat} {l : List Nat} {t : Tok} (G : GW w g0 P) (hx : κ x = some (ins 278 dx #[some u1, some (.str (S (a :: l)) t), some v2, some v1])) (hdx : κ dx = some emptyDict) (hl : (a :: l).length ≤ 4096) : Wr w g0 P κ d 274 x (64 :: idn (a :: l)) := by
  refine' Wr.intro G ?ho ?hcd ?hbind ?body ?hloc ?hcell ?hco ?hgen ?hk
  walk_at "inw"
  intro A c φ s₁ b da o k T0 Q e1 e2 le hb hck hz H r fin; subst e1 e2
  have hx := le _ _ hx
  have hdx := le _ _ hdx
  have hz0 : 64 ≤ Zb d := Nat.le_mul_of_pos_right 64 (Nat.pow_pos (by decide))
  have R3 : Rm _ 3 := r.less (by lia)
  have sid : ∀ {A' : Around} {φ : Fz} {m' : List (Str × Value)} {R' : List (Addr × Obj)} {s' : Shared} {Q' : Value → Shared → Prop} {a : Nat} {l : List Nat} {t : Tok}, (a :: l).length ≤ 1048576 → Rm A' 3 → St c φ m' R' s' → (∀ t' s'', St c φ m' R' s'' → Q' (.str (S (idn (a :: l))) t') s'') → wpAny (model PG w) A' (call (.ref 28) [.str (S (a :: l)) t]) Q' NoE s' :=
    fun hl r' H' h' => c_ident (n := 1) G H'.inv r' hl fun t' s'' pr I' => h' t' s'' (H'.call0 pr I')
  repeat' (first
    | walk_at "s"
    | walk_at "call"
    | walk_at "i"
    | (refine ite_two ?_ ?_ <;> intro hc)
    | ((with_reducible refine' sid ?hl R3 (by with_reducible assumption) ?_); (case hl => walk_at "len"); intro _ _ _)
    | (exact fin _ _ _ _ _ _ (by with_reducible assumption) (by with_reducible assumption) (by lia) (by (try walk_at "lit"); (try simp [S]))))
theorem wr_Hash1 {w : World} {g0 : Heap} {P : Addr} {κ : Fz} {d : Nat} {x dx : Addr} {v1 v2 : Value} {a : Nat} {l : List Nat} {t : Tok} (G : GW w g0 P) (hx : κ x = some (ins 308 dx #[some (.bool true), some (.str (S (a :: l)) t), some v2, some v1])) (hdx : κ dx = some emptyDict) (hl : (a :: l).length ≤ 4096) : Wr w g0 P κ d 304 x (35 :: idn (a :: l)) := by
  refine' Wr.intro G ?ho ?hcd ?hbind ?body ?hloc ?hcell ?hco ?hgen ?hk
  walk_at "inw"
  intro A c φ s₁ b da o k T0 Q e1 e2 le hb hck hz H r fin; subst e1 e2
  have hx := le _ _ hx
  have hdx := le _ _ hdx
  have hz0 : 64 ≤ Zb d := Nat.le_mul_of_pos_right 64 (Nat.pow_pos (by decide))
  have R3 : Rm _ 3 := r.less (by lia)
  have sid : ∀ {A' : Around} {φ : Fz} {m' : List (Str × Value)} {R' : List (Addr × Obj)} {s' : Shared} {Q' : Value → Shared → Prop} {a : Nat} {l : List Nat} {t : Tok}, (a :: l).length ≤ 1048576 → Rm A' 3 → St c φ m' R' s' → (∀ t' s'', St c φ m' R' s'' → Q' (.str (S (idn (a :: l))) t') s'') → wpAny (model PG w) A' (call (.ref 28) [.str (S (a :: l)) t]) Q' NoE s' :=
    fun hl r' H' h' => c_ident (n := 1) G H'.inv r' hl fun t' s'' pr I' => h' t' s'' (H'.call0 pr I')
  have snm : ∀ {A' : Around} {φ : Fz} {m' : List (Str × Value)} {R' : List (Addr × Obj)} {s' : Shared} {Q' : Value → Shared → Prop} {l : List Nat} {t : Tok}, l.length ≤ 1048576 → Rm A' 3 → St c φ m' R' s' → (∀ t' s'', St c φ m' R' s'' → Q' (.str (S (encN l)) t') s'') → wpAny (model PG w) A' (call (.ref 35) [.str (S l) t]) Q' NoE s' :=
    fun hl r' H' h' => c_name (n := 2) G H'.inv r' (by simpa [S_length] using hl) fun t' s'' pr I' => by have := h' t' s'' (H'.call0 pr I'); simpa [S] using this
  repeat' (first
    | walk_at "s"
    | walk_at "call"
    | walk_at "i"
    | (refine ite_two ?_ ?_ <;> intro hc)
    | ((with_reducible refine' sid ?hl R3 (by with_reducible assumption) ?_); (case hl => walk_at "len"); intro _ _ _)
    | ((with_reducible refine' snm ?hl R3 (by with_reducible assumption) ?_); (case hl => walk_at "len"); intro _ _ _)
    | (exact fin _ _ _ _ _ _ (by with_reducible assumption) (by with_reducible assumption) (by lia) (by (try walk_at "lit"); (try simp [S]))))
theorem wr_Hash0 {w : World} {g0 : Heap} {P : Addr} {κ : Fz} {d : Nat} {x dx : Addr} {v1 v2 : Value} {a : Nat} {l : List Nat} {t : Tok} (G : GW w g0 P) (hx : κ x = some (ins 308 dx #[some (.bool false), some (.str (S (a :: l)) t), some v2, some v1])) (hdx : κ dx = some emptyDict) (hl : (a :: l).length ≤ 4096) : Wr w g0 P κ d 304 x (35 :: encN (a :: l)) := by
  refine' Wr.intro G ?ho ?hcd ?hbind ?body ?hloc ?hcell ?hco ?hgen ?hk
  walk_at "inw"
  intro A c φ s₁ b da o k T0 Q e1 e2 le hb hck hz H r fin; subst e1 e2
  have hx := le _ _ hx
  have hdx := le _ _ hdx
  have hz0 : 64 ≤ Zb d := Nat.le_mul_of_pos_right 64 (Nat.pow_pos (by decide))
  have R3 : Rm _ 3 := r.less (by lia)
  have sid : ∀ {A' : Around} {φ : Fz} {m' : List (Str × Value)} {R' : List (Addr × Obj)} {s' : Shared} {Q' : Value → Shared → Prop} {a : Nat} {l : List Nat} {t : Tok}, (a :: l).length ≤ 1048576 → Rm A' 3 → St c φ m' R' s' → (∀ t' s'', St c φ m' R' s'' → Q' (.str (S (idn (a :: l))) t') s'') → wpAny (model PG w) A' (call (.ref 28) [.str (S (a :: l)) t]) Q' NoE s' :=
    fun hl r' H' h' => c_ident (n := 1) G H'.inv r' hl fun t' s'' pr I' => h' t' s'' (H'.call0 pr I')
  have snm : ∀ {A' : Around} {φ : Fz} {m' : List (Str × Value)} {R' : List (Addr × Obj)} {s' : Shared} {Q' : Value → Shared → Prop} {l : List Nat} {t : Tok}, l.length ≤ 1048576 → Rm A' 3 → St c φ m' R' s' → (∀ t' s'', St c φ m' R' s'' → Q' (.str (S (encN l)) t') s'') → wpAny (model PG w) A' (call (.ref 35) [.str (S l) t]) Q' NoE s' :=
    fun hl r' H' h' => c_name (n := 2) G H'.inv r' (by simpa [S_length] using hl) fun t' s'' pr I' => by have := h' t' s'' (H'.call0 pr I'); simpa [S] using this
  repeat' (first
    | walk_at "s"
    | walk_at "call"
    | walk_at "i"
    | (refine ite_two ?_ ?_ <;> intro hc)
    | ((with_reducible refine' sid ?hl R3 (by with_reducible assumption) ?_); (case hl => walk_at "len"); intro _ _ _)
    | ((with_reducible refine' snm ?hl R3 (by with_reducible assumption) ?_); (case hl => walk_at "len"); intro _ _ _)
    | (exact fin _ _ _ _ _ _ (by with_reducible assumption) (by with_reducible assumption) (by lia) (by (try walk_at "lit"); (try simp [S]))))
theorem wr_String {w : World} {g0 : Heap} {P : Addr} {κ : Fz} {d : Nat} {x dx : Addr} {v1 v2 : Value} {u1 : Value} {l : List Nat} {t : Tok} (G : GW w g0 P) (hx : κ x = some (ins 338 dx #[some (.str (S l) t), some u1, some v2, some v1])) (hdx : κ dx = some emptyDict)  : Wr w g0 P κ d 334 x (l) := by
  refine' Wr.intro G ?ho ?hcd ?hbind ?body ?hloc ?hcell ?hco ?hgen ?hk
  walk_at "inw"
  intro A c φ s₁ b da o k T0 Q e1 e2 le hb hck hz H r fin; subst e1 e2
  have hx := le _ _ hx
  have hdx := le _ _ hdx
  have hz0 : 64 ≤ Zb d := Nat.le_mul_of_pos_right 64 (Nat.pow_pos (by decide))
  have R3 : Rm _ 3 := r.less (by lia)
  repeat' (first
    | walk_at "s"
    | walk_at "call"
    | walk_at "i"
    | (refine ite_two ?_ ?_ <;> intro hc)
    | (exact fin _ _ _ _ _ _ (by with_reducible assumption) (by with_reducible assumption) (by lia) (by (try walk_at "lit"); (try simp [S]))))
theorem wr_URL {w : World} {g0 : Heap} {P : Addr} {κ : Fz} {d : Nat} {x dx : Addr} {v1 v2 : Value} {u1 : Value} {l : List Nat} {t : Tok} (G : GW w g0 P) (hx : κ x = some (ins 368 dx #[some (.str (S l) t), some u1, some v2, some v1])) (hdx : κ dx = some emptyDict)  : Wr w g0 P κ d 364 x (l) := by
  refine' Wr.intro G ?ho ?hcd ?hbind ?body ?hloc ?hcell ?hco ?hgen ?hk
  walk_at "inw"
  intro A c φ s₁ b da o k T0 Q e1 e2 le hb hck hz H r fin; subst e1 e2
  have hx := le _ _ hx
  have hdx := le _ _ hdx
  have hz0 : 64 ≤ Zb d := Nat.le_mul_of_pos_right 64 (Nat.pow_pos (by decide))
  have R3 : Rm _ 3 := r.less (by lia)
  repeat' (first
    | walk_at "s"
    | walk_at "call"
    | walk_at "i"
    | (refine ite_two ?_ ?_ <;> intro hc)
    | (exact fin _ _ _ _ _ _ (by with_reducible assumption) (by with_reducible assumption) (by lia) (by (try walk_at "lit"); (try simp [S]))))
theorem wr_Number {w : World} {g0 : Heap} {P : Addr} {κ : Fz} {d : Nat} {x dx : Addr} {v1 v2 : Value} {u1 u2 u3 : Value} {l : List Nat} {t : Tok} (G : GW w g0 P) (hx : κ x = some (ins 428 dx #[some u1, some u2, some (.str (S l) t), some u3, some v2, some v1])) (hdx : κ dx = some emptyDict)  : Wr w g0 P κ d 424 x (l) := by
  refine' Wr.intro G ?ho ?hcd ?hbind ?body ?hloc ?hcell ?hco ?hgen ?hk
  walk_at "inw"
  intro A c φ s₁ b da o k T0 Q e1 e2 le hb hck hz H r fin; subst e1 e2
  have hx := le _ _ hx
  have hdx := le _ _ hdx
  have hz0 : 64 ≤ Zb d := Nat.le_mul_of_pos_right 64 (Nat.pow_pos (by decide))
  have R3 : Rm _ 3 := r.less (by lia)
  repeat' (first
    | walk_at "s"
    | walk_at "call"
    | walk_at "i"
    | (refine ite_two ?_ ?_ <;> intro hc)
    | (exact fin _ _ _ _ _ _ (by with_reducible assumption) (by with_reducible assumption) (by lia) (by (try walk_at "lit"); (try simp [S]))))
theorem wr_Percentage {w : World} {g0 : Heap} {P : Addr} {κ : Fz} {d : Nat} {x dx : Addr} {v1 v2 : Value} {u1 u2 u3 : Value} {l : List Nat} {t : Tok} (G : GW w g0 P) (hx : κ x = some (ins 460 dx #[some u1, some u2, some (.str (S l) t), some u3, some v2, some v1])) (hdx : κ dx = some emptyDict)  : Wr w g0 P κ d 456 x (l ++ [37]) := by
  refine' Wr.intro G ?ho ?hcd ?hbind ?body ?hloc ?hcell ?hco ?hgen ?hk
  walk_at "inw"
  intro A c φ s₁ b da o k T0 Q e1 e2 le hb hck hz H r fin; subst e1 e2
  have hx := le _ _ hx
  have hdx := le _ _ hdx
  have hz0 : 64 ≤ Zb d := Nat.le_mul_of_pos_right 64 (Nat.pow_pos (by decide))
  have R3 : Rm _ 3 := r.less (by lia)
  repeat' (first
    | walk_at "s"
    | walk_at "call"
    | walk_at "i"
    | (refine ite_two ?_ ?_ <;> intro hc)
    | (exact fin _ _ _ _ _ _ (by with_reducible assumption) (by with_reducible assumption) (by lia) (by (try walk_at "lit"); (try simp [S]))))
theorem starts_S (x p : List Nat) : Txt.startswith (S x) (S p) = decide (x.take p.length = p) := by
  show (decide (0 + (S p).length ≤ (S x).length) && Builtin.Str.subAt (S x) (S p) 0) = _
  rw [StrLaws.subAt_eq, S_length, S_length]
  have e1 : (S x).cps.toList = x := by simp [S]
  have e2 : (S p).cps.toList = p := by simp [S]
  rw [e1, e2, List.drop_zero]
  by_cases h : x.take p.length = p
  · have : p.length ≤ x.length := by have := congrArg List.length h; rw [List.length_take] at this; lia
    simp [h, this]
  · simp [h]
theorem wr_ErrStr {w : World} {g0 : Heap} {P : Addr} {κ : Fz} {d : Nat} {x dx : Addr} {v1 v2 : Value} {u1 : Value} {t : Tok} (G : GW w g0 P) (hx : κ x = some (ins 117 dx #[some (.str (Str.ofString "bad-string") t), some u1, some v2, some v1])) (hdx : κ dx = some emptyDict)  : Wr w g0 P κ d 113 x ([34, 91, 98, 97, 100, 32, 115, 116, 114, 105, 110, 103, 93, 10]) := by
  refine' Wr.intro G ?ho ?hcd ?hbind ?body ?hloc ?hcell ?hco ?hgen ?hk
  walk_at "inw"
  intro A c φ s₁ b da o k T0 Q e1 e2 le hb hck hz H r fin; subst e1 e2
  have hx := le _ _ hx
  have hdx := le _ _ hdx
  have hz0 : 64 ≤ Zb d := Nat.le_mul_of_pos_right 64 (Nat.pow_pos (by decide))
  have R3 : Rm _ 3 := r.less (by lia)
  repeat' (first
    | walk_at "s"
    | walk_at "call"
    | walk_at "i"
    | (refine ite_two ?_ ?_ <;> intro hc <;> first | (exfalso; exact absurd hc (by decide +kernel)) | (exfalso; revert hc; simp [keyIs]; done) | skip)
    | (with_reducible refine wpAny_Pass ?_)
    | ((with_reducible refine' r_in_tuple (by with_reducible assumption) ?ho ?hv ?hs ?_); (case ho => with_reducible assumption); (case hv => trivial); (case hs => simp); intro _)
    | (exact fin _ _ _ _ _ _ (by with_reducible assumption) (by with_reducible assumption) (by lia) (by (try walk_at "lit"); (try simp [S]))))
theorem wr_ErrUrl {w : World} {g0 : Heap} {P : Addr} {κ : Fz} {d : Nat} {x dx : Addr} {v1 v2 : Value} {u1 : Value} {t : Tok} (G : GW w g0 P) (hx : κ x = some (ins 117 dx #[some (.str (Str.ofString "bad-url") t), some u1, some v2, some v1])) (hdx : κ dx = some emptyDict)  : Wr w g0 P κ d 113 x ([117, 114, 108, 40, 91, 98, 97, 100, 32, 117, 114, 108, 93, 41]) := by
  refine' Wr.intro G ?ho ?hcd ?hbind ?body ?hloc ?hcell ?hco ?hgen ?hk
  walk_at "inw"
  intro A c φ s₁ b da o k T0 Q e1 e2 le hb hck hz H r fin; subst e1 e2
  have hx := le _ _ hx
  have hdx := le _ _ hdx
  have hz0 : 64 ≤ Zb d := Nat.le_mul_of_pos_right 64 (Nat.pow_pos (by decide))
  have R3 : Rm _ 3 := r.less (by lia)
  repeat' (first
    | walk_at "s"
    | walk_at "call"
    | walk_at "i"
    | (refine ite_two ?_ ?_ <;> intro hc <;> first | (exfalso; exact absurd hc (by decide +kernel)) | (exfalso; revert hc; simp [keyIs]; done) | skip)
    | (with_reducible refine wpAny_Pass ?_)
    | ((with_reducible refine' r_in_tuple (by with_reducible assumption) ?ho ?hv ?hs ?_); (case ho => with_reducible assumption); (case hv => trivial); (case hs => simp); intro _)
    | (exact fin _ _ _ _ _ _ (by with_reducible assumption) (by with_reducible assumption) (by lia) (by (try walk_at "lit"); (try simp [S]))))
theorem wr_ErrEof {w : World} {g0 : Heap} {P : Addr} {κ : Fz} {d : Nat} {x dx : Addr} {v1 v2 : Value} {u1 : Value} {t : Tok} (G : GW w g0 P) (hx : κ x = some (ins 117 dx #[some (.str (Str.ofString "eof-in-string") t), some u1, some v2, some v1])) (hdx : κ dx = some emptyDict)  : Wr w g0 P κ d 113 x ([]) := by
  refine' Wr.intro G ?ho ?hcd ?hbind ?body ?hloc ?hcell ?hco ?hgen ?hk
  walk_at "inw"
  intro A c φ s₁ b da o k T0 Q e1 e2 le hb hck hz H r fin; subst e1 e2
  have hx := le _ _ hx
  have hdx := le _ _ hdx
  have hz0 : 64 ≤ Zb d := Nat.le_mul_of_pos_right 64 (Nat.pow_pos (by decide))
  have R3 : Rm _ 3 := r.less (by lia)
  repeat' (first
    | walk_at "s"
    | walk_at "call"
    | walk_at "i"
    | (refine ite_two ?_ ?_ <;> intro hc <;> first | (exfalso; exact absurd hc (by decide +kernel)) | (exfalso; revert hc; simp [keyIs]; done) | skip)
    | (with_reducible refine wpAny_Pass ?_)
    | ((with_reducible refine' r_in_tuple (by with_reducible assumption) ?ho ?hv ?hs ?_); (case ho => with_reducible assumption); (case hv => trivial); (case hs => simp); intro _)
    | (exact fin _ _ _ _ _ _ (by with_reducible assumption) (by with_reducible assumption) (by lia) (by (try walk_at "lit"); (try simp [S]))))
theorem wr_Range {w : World} {g0 : Heap} {P : Addr} {κ : Fz} {d : Nat} {x dx : Addr} {v1 v2 : Value} {lo hi : Nat} {t1 t2 : Tok} (G : GW w g0 P) (hx : κ x = some (ins 398 dx #[some (.int (hi : Nat) t1), some (.int (lo : Nat) t2), some v2, some v1])) (hdx : κ dx = some emptyDict) (hlo : lo < 4294967296) (hhi : hi < 4294967296) : Wr w g0 P κ d 394 x (85 :: 43 :: hexN lo ++ (if lo = hi then [] else 45 :: hexN hi)) := by
  refine' Wr.intro G ?ho ?hcd ?hbind ?body ?hloc ?hcell ?hco ?hgen ?hk
  walk_at "inw"
  intro A c φ s₁ b da o k T0 Q e1 e2 le hb hck hz H r fin; subst e1 e2
  have hx := le _ _ hx
  have hdx := le _ _ hdx
  have hz0 : 64 ≤ Zb d := Nat.le_mul_of_pos_right 64 (Nat.pow_pos (by decide))
  have R3 : Rm _ 3 := r.less (by lia)
  repeat' (first
    | walk_at "s"
    | walk_at "call"
    | walk_at "i"
    | (refine ite_two ?_ ?_ <;> intro hc))
  · have e : hi = lo := by have h2 := hc; simp at h2; lia
    exact fin _ _ _ _ _ _ (by with_reducible assumption) (by with_reducible assumption) (by lia) (by rw [if_pos e.symm]; simp [S])
  · have e : ¬ lo = hi := fun z => hc (by simp [z])
    exact fin _ _ _ _ _ _ (by with_reducible assumption) (by with_reducible assumption) (by lia) (by rw [if_neg e]; simp [S])
theorem wr_Dimension {w : World} {g0 : Heap} {P : Addr} {κ : Fz} {d : Nat} {x dx : Addr} {v1 v2 : Value} {u1 u2 u3 u4 : Value} {p l : List Nat} {a : Nat} {t t1 : Tok} (G : GW w g0 P) (hx : κ x = some (ins 492 dx #[some u1, some u2, some u3, some (.str (S p) t1), some (.str (S (a :: l)) t), some u4, some v2, some v1])) (hdx : κ dx = some emptyDict) (hl : (a :: l).length ≤ 4096) (hE : a ≠ 69) : Wr w g0 P κ d 488 x (p ++ unt (a :: l)) := by
  refine' Wr.intro G ?ho ?hcd ?hbind ?body ?hloc ?hcell ?hco ?hgen ?hk
  walk_at "inw"
  intro A c φ s₁ b da o k T0 Q e1 e2 le hb hck hz H r fin; subst e1 e2
  have hx := le _ _ hx
  have hdx := le _ _ hdx
  have hz0 : 64 ≤ Zb d := Nat.le_mul_of_pos_right 64 (Nat.pow_pos (by decide))
  have R3 : Rm _ 3 := r.less (by lia)
  have sid : ∀ {A' : Around} {φ : Fz} {m' : List (Str × Value)} {R' : List (Addr × Obj)} {s' : Shared} {Q' : Value → Shared → Prop} {a : Nat} {l : List Nat} {t : Tok}, (a :: l).length ≤ 1048576 → Rm A' 3 → St c φ m' R' s' → (∀ t' s'', St c φ m' R' s'' → Q' (.str (S (idn (a :: l))) t') s'') → wpAny (model PG w) A' (call (.ref 28) [.str (S (a :: l)) t]) Q' NoE s' :=
    fun hl r' H' h' => c_ident (n := 1) G H'.inv r' hl fun t' s'' pr I' => h' t' s'' (H'.call0 pr I')
  have snm : ∀ {A' : Around} {φ : Fz} {m' : List (Str × Value)} {R' : List (Addr × Obj)} {s' : Shared} {Q' : Value → Shared → Prop} {l : List Nat} {t : Tok}, l.length ≤ 1048576 → Rm A' 3 → St c φ m' R' s' → (∀ t' s'', St c φ m' R' s'' → Q' (.str (S (encN l)) t') s'') → wpAny (model PG w) A' (call (.ref 35) [.str (S l) t]) Q' NoE s' :=
    fun hl r' H' h' => c_name (n := 2) G H'.inv r' (by simpa [S_length] using hl) fun t' s'' pr I' => by have := h' t' s'' (H'.call0 pr I'); simpa [S] using this
  repeat' (first
    | walk_at "s"
    | walk_at "call"
    | walk_at "i"
    | (refine ite_two ?_ ?_ <;> intro hc)
    | ((with_reducible refine' sid ?hl R3 (by with_reducible assumption) ?_); (case hl => walk_at "len"); intro _ _ _)
    | ((with_reducible refine' snm ?hl R3 (by with_reducible assumption) ?_); (case hl => walk_at "len"); intro _ _ _)
    | ((with_reducible refine' r_in_tuple (by with_reducible assumption) ?ho ?hv ?hs ?_); (case ho => with_reducible assumption); (case hv => trivial); (case hs => simp); intro _)
    | ((with_reducible show wpAny _ _ (call (Value.builtin "str.startswith") _) _ _ _); (refine' r_starts2 (by with_reducible assumption) ?ho ?_); (case ho => with_reducible assumption); intro _ _))
  all_goals
    have e1 : Str.ofString "e" = S [101] := by decide +kernel
    have e2 : Str.ofString "E" = S [69] := by decide +kernel
    have e3 : Str.ofString "e-" = S [101, 45] := by decide +kernel
    have e4 : Str.ofString "E-" = S [69, 45] := by decide +kernel
  · have h1 : a :: l = [101] := by
      simp only [keyIs, List.any_cons, List.any_nil, e1, e2, S_beq, Bool.or_false, Bool.or_eq_true, decide_eq_true_eq] at hc
      rcases hc with hc | hc
      · exact hc.symm
      · cases hc; exact absurd rfl hE
    have q1 : unt (a :: l) = [92, 54, 53, 32] ++ encN ((a :: l).drop 1) := by unfold unt; rw [if_pos (.inl h1)]
    exact fin _ _ _ _ _ _ (by with_reducible assumption) (by with_reducible assumption) (by lia) (by rw [q1]; walk_at "lit"; simp [S])
  · have h1 : (a :: l).take 2 = [101, 45] := by
      simp only [e3, e4, starts_S] at hc
      simp only [Bool.or_eq_true, decide_eq_true_eq] at hc
      rcases hc with hc | hc
      · exact hc
      · have := congrArg List.head? hc; simp at this; exact absurd this hE
    have q1 : unt (a :: l) = [92, 54, 53, 32] ++ encN ((a :: l).drop 1) := by unfold unt; rw [if_pos (.inr h1)]
    exact fin _ _ _ _ _ _ (by with_reducible assumption) (by with_reducible assumption) (by lia) (by rw [q1]; walk_at "lit"; simp [S])
  · have h1 : ¬ (a :: l = [101] ∨ (a :: l).take 2 = [101, 45]) := by
      rintro (h | h)
      · refine absurd ?_ ‹¬ (List.any _ _) = true›
        simp [keyIs, e1, h]
      · refine absurd ?_ hc
        rw [e3, starts_S]; simp only [Bool.or_eq_true, decide_eq_true_eq]; exact .inl h
    have q1 : unt (a :: l) = idn (a :: l) := by unfold unt; rw [if_neg h1]
    exact fin _ _ _ _ _ _ (by with_reducible assumption) (by with_reducible assumption) (by lia) (by rw [q1]; simp [S])
abbrev LIT : Str := Str.ofString "literal"
abbrev WSP : Str := Str.ofString "whitespace"
/-- a node: its kind, its text -/
inductive Nd (w : World) (g0 : Heap) (P : Addr) (κ : Fz) (d : Nat) : Value → Str × List Nat → Prop
  | mk {x C f dx : Addr} {sl : Array (Option Value)} {ty k : Str} {T : List Nat} (hx : κ x = some (ins C dx sl)) (hdx : κ dx = some emptyDict) (cl : Cls (KF w.params) C f ty) (wr : Wr w g0 P κ d f x T) (hT : T.length ≤ Zb d)
      (kd : (C = 219 ∧ ty = LIT ∧ ∃ t, (sl[0]?).join = some (.str k t)) ∨ (C ≠ 219 ∧ ty = k ∧ k ≠ LIT)) (ws : k = WSP → C = 176 ∧ ∃ t, (sl[0]?).join = some (.str (S T) t)) : Nd w g0 P κ d (.ref x) (k, T)
theorem Nd.up {w : World} {g0 : Heap} {P : Addr} {κ κ' : Fz} {d : Nat} {v : Value} {q : Str × List Nat} (le : Fz.le κ κ') (h : Nd w g0 P κ d v q) : Nd w g0 P κ' d v q := by
  cases h with
  | mk hx hdx cl wr hT kd ws => exact .mk (le _ _ hx) (le _ _ hdx) cl (wr.up le) hT kd ws
def pvOk (pv : Value) (l : Str) : Prop := (pv = .none ∧ l = Str.ofString "") ∨ ∃ t, pv = .str l t
theorem pvOk.sn {pv : Value} {l : Str} (h : pvOk pv l) : StrOrNone pv := by
  rcases h with ⟨rfl, _⟩ | ⟨t, rfl⟩ <;> trivial
theorem pv_bad {pv : Value} {l k : Str} (h : pvOk pv l) : badV pv k = tabV l k := by
  rcases h with ⟨rfl, rfl⟩ | ⟨t, rfl⟩
  · rw [tabV_n1 (by decide +kernel)]
    simp [badV, isIn, keyIs]
  · rw [tab_bad]; rfl
theorem pv_bsl {pv : Value} {l : Str} (h : pvOk pv l) : keyIs pv (.str (Str.ofString "\\") 0) = (l == Str.ofString "\\") := by
  rcases h with ⟨rfl, rfl⟩ | ⟨t, rfl⟩
  · decide +kernel
  · exact Bool.eq_iff_iff.mpr (by simp only [keyIs, beq_iff_eq]; exact eq_comm)
theorem cut_next {w : World} {A : Around} {s : Shared} {st : Stmt} {rest : List Stmt} {env : Env} {Q : Flow → Shared → Prop} (X : Shared → Prop) (h : wpAny (model PG w) A (exec st env) (fun fl s' => fl = .next ∧ X s') NoE s) (k : ∀ s', X s' → wpAny (model PG w) A (execs rest env) Q NoE s') :
    wpAny (model PG w) A (execs (st :: rest) env) Q NoE s :=
  wpAny_execs_cons (wpAny_mono h (fun fl s' z => by obtain ⟨rfl, z⟩ := z; exact k s' z) fun _ _ z => z)
theorem cut_nx {w : World} {A : Around} {s : Shared} {st : Stmt} {rest : List Stmt} {env : Env} {Q : Flow → Shared → Prop} (X : Shared → Prop → Prop) (h : ∀ QQ : Flow → Shared → Prop, (∀ s', X s' (QQ .next s')) → wpAny (model PG w) A (exec st env) QQ NoE s) (k : ∀ s', X s' (wpAny (model PG w) A (execs rest env) Q NoE s')) :
    wpAny (model PG w) A (execs (st :: rest) env) Q NoE s := wpAny_execs_cons (h _ k)
theorem St.swap {c : Cx} {φ : Fz} {m : List (Str × Value)} {p q : Addr × Obj} {R : List (Addr × Obj)} {s : Shared} (H : St c φ m (p :: q :: R) s) : St c φ m (q :: p :: R) s :=
  H.sub (fun x hx => by
    rcases List.mem_cons.mp hx with rfl | hx
    · exact .tail _ (.head _)
    · rcases List.mem_cons.mp hx with rfl | hx
      · exact .head _
      · exact .tail _ (.tail _ hx)) (by
    have := H.ord
    simp only [List.map_cons, List.nodup_cons, List.mem_cons, not_or] at this ⊢
    exact ⟨⟨Ne.symm this.1.1, this.2.1⟩, this.1.2, this.2.2⟩)
theorem bnd_other {g0 : Heap} {P : Addr} {s : Shared} {b da : Addr} {o : Obj} {k : Nat} {T0 : List Nat} (I : Inv g0 P s) (hb : s.heap.get? b = some (bnd da)) (hda : s.heap.get? da = some o) (hck : Ck o k T0) : b ≠ da ∧ b ≠ P := by
  refine ⟨fun e => ?_, fun e => ?_⟩
  · rw [e, hda] at hb
    obtain ⟨its, _, hl, _⟩ := hck
    have := hl.1
    rw [Option.some.inj hb] at this
    exact absurd this (by simp [bnd])
  · obtain ⟨ps, _, h2⟩ := I.tab
    have := h2.2
    rw [← e, hb] at this
    have := congrArg Obj.cls (Option.some.inj this)
    simp [bnd] at this
theorem c_ser {g0 : Heap} {P : Addr} {w : World} {A : Around} {s : Shared} {d : Nat} {Q : Value → Shared → Prop} (G : GW w g0 P) (I : Inv g0 P s) (r : Rm A (RN d + 1)) {κ : Fz} {la b da : Addr} {lo o : Obj} {its : Array Value} {told : List (Str × List Nat)} {k : Nat} {T0 : List Nat}
    (hκ : ∀ y o, κ y = some o → s.heap.get? y = some o ∧ y ≠ P ∧ y ≠ da) (hl : κ la = some lo) (hlo : LstO lo its) (hn : All2 (Nd w g0 P κ d) its.toList told)
    (hb : s.heap.get? b = some (bnd da)) (hda : s.heap.get? da = some o) (hg : g0.objs.size ≤ da) (hck : Ck o k T0) (hz : k + told.length * (Zb d + 2) ≤ 16777216)
    (h : ∀ s' o', Pres P [da] s s' → Inv g0 P s' → s'.heap.get? da = some o' → Ck o' (k + told.length * (Zb d + 2)) (T0 ++ joinV (Str.ofString "") told) → Q .none s') : wpAny (model PG w) A (call (.ref 42) [.ref la, .ref b]) Q NoE s := by
  refine' enter (binds := [("nodes", .ref la), ("write", .ref b)]) (m := [("write", .ref b), ("nodes", .ref la)]) (Ds := [da]) G I r [(da, o)] (by simpa using ⟨hda, hg⟩) (by simp) ?ho ?hcd ?hbind ?hm ?hDs ?body ?hloc ?hcell ?hco ?hgen ?hk
  walk_at "in"
  intro c φ s₁ e1 e2 e3 eD hφ H r; subst e1 e2 e3
  obtain ⟨hbd, hbP⟩ := bnd_other I hb hda hck
  have le : Fz.le κ φ := fun y o' e => (hφ y o').mpr ⟨(hκ y o' e).1, by simpa using (hκ y o' e).2.2, (hκ y o' e).2.1⟩
  have hb : φ b = some (bnd da) := (hφ _ _).mpr ⟨hb, by simpa using hbd, hbP⟩
  repeat' (first | walk_at "s" | walk_at "call" | (refine ite_two ?_ ?_ <;> intro hc))
  refine r_for_list (J := fun i φ' m' R' => φ' = φ ∧ ∃ oi pv, R' = [(da, oi)] ∧ Ck oi (k + i * (Zb d + 2)) (T0 ++ joinV (Str.ofString "") (told.take i)) ∧ Lk m' (Str.ofString "write") (.ref b) ∧ Lk m' (Str.ofString "previous_type") pv ∧ pvOk pv (lastK (Str.ofString "") (told.take i))) r.hh (by assumption) (le _ _ hl) hlo ⟨rfl, o, .none, rfl, by simpa [joinV] using hck, by walk_at "lk", by walk_at "lk", .inl ⟨rfl, rfl⟩⟩ ?_ ?_
  · rintro i φ' m' R' z s2 hi ⟨rfl, oi, pv, rfl, hck', hw, hp, hpv⟩ _ H2
    have hlen := hn.length
    have hi2 : i < told.length := by rw [← hlen]; simpa using hi
    have hnd := hn.get i (by simpa using hi) hi2
    have htk : told.take (i + 1) = told.take i ++ [told[i]] := by rw [List.take_succ_eq_append_getElem hi2]
    have hnd : Nd w c.g0 c.P κ d its[i] told[i] := by simpa using hnd
    generalize its[i] = v at hnd ⊢
    generalize told[i] = q at hnd htk
    have hki : k + i * (Zb d + 2) + (Zb d + 2) ≤ k + told.length * (Zb d + 2) := by
      have := Nat.mul_le_mul_right (Zb d + 2) hi2
      rw [Nat.succ_mul] at this; lia
    have hki2 : k + (i + 1) * (Zb d + 2) = k + i * (Zb d + 2) + (Zb d + 2) := by rw [Nat.succ_mul]; lia
    generalize k + i * (Zb d + 2) = ki at hck' hki hki2
    have hle := (show Fz.le κ φ' from le)
    cases hnd with
    | @mk x C f dx sl ty kk T hx hdx cl wr hT kd ws =>
    have hx := le _ _ hx
    have hdx := le _ _ hdx
    have e10 : Str.ofString "\n" = S [10] := by decide +kernel
    have e59 : (Str.ofString ";").cps.toList = [59] := by decide +kernel
    have hkj : joinV (Str.ofString "") (told.take (i + 1)) = joinV (Str.ofString "") (told.take i) ++ (markV (lastK (Str.ofString "") (told.take i)) kk T ++ T ++ isDecl kk) := by
      rw [htk, joinV_append]; simp [joinV]
    have hkl : lastK (Str.ofString "") (told.take (i + 1)) = kk := by rw [htk, lastK_append]; rfl
    clear htk
    generalize lastK (Str.ofString "") (told.take i) = l at hpv hkj
    generalize lastK (Str.ofString "") (told.take (i + 1)) = l' at hkl ⊢
    generalize joinV (Str.ofString "") (told.take i) = X at hck' hkj
    generalize joinV (Str.ofString "") (told.take (i + 1)) = X' at hkj ⊢
    subst hkl hkj
    with_reducible refine assign_Name ?_
    with_reducible refine' r_store (by with_reducible assumption) ?_
    intro s3 H3
    replace H3 := H3.swap
    clear H2
    have m0 : badV pv l' = tabV l l' := pv_bad hpv
    have mb : keyIs pv (.str (Str.ofString "\\") 0) = (l == Str.ofString "\\") := pv_bsl hpv
    have hsn := hpv.sn
    have ms : Txt.startswith (S T) (Str.ofString "\n") = decide (T.take 1 = [10]) := by rw [e10, starts_S]; rfl
    have e47c : (Str.ofString "/**/").cps.toList = [47, 42, 42, 47] := by decide +kernel
    have e10c : (Str.ofString "\n").cps.toList = [10] := by decide +kernel
    have k1 : badV pv l' = true → markV l l' T = [47, 42, 42, 47] := fun h => by unfold markV; rw [if_pos (m0 ▸ h)]
    have k2 : ¬ badV pv l' = true → keyIs pv (.str (Str.ofString "\\") 0) = true → ¬ (l' == Str.ofString "whitespace") = true → markV l l' T = [10] := fun h h1 h2 => by
      unfold markV; rw [if_neg (m0 ▸ h), if_pos]; rw [← mb, h1, Bool.not_eq_true _ |>.mp h2]; rfl
    have k3 : ¬ badV pv l' = true → keyIs pv (.str (Str.ofString "\\") 0) = true → ¬ Txt.startswith (S T) (Str.ofString "\n") = true → markV l l' T = [10] := fun h h1 h2 => by
      unfold markV; rw [if_neg (m0 ▸ h), if_pos]; rw [← mb, h1, ← ms, Bool.not_eq_true _ |>.mp h2]; simp
    have k4 : ¬ badV pv l' = true → keyIs pv (.str (Str.ofString "\\") 0) = true → (l' == Str.ofString "whitespace") = true → Txt.startswith (S T) (Str.ofString "\n") = true → markV l l' T = [] := fun h h1 h2 h3 => by
      unfold markV; rw [if_neg (m0 ▸ h), if_neg]; rw [← mb, h1, ← ms, h3, h2]; simp
    have k5 : ¬ badV pv l' = true → ¬ keyIs pv (.str (Str.ofString "\\") 0) = true → markV l l' T = [] := fun h h1 => by
      unfold markV; rw [if_neg (m0 ▸ h), if_neg]; rw [← mb, Bool.not_eq_true _ |>.mp h1]; simp
    have kd' : (∃ t, (C = 219 ∧ ty = LIT ∧ (sl[0]?).join = some (.str l' t))) ∨ (ty = l' ∧ l' ≠ LIT) := by
      rcases kd with ⟨a, b, t, e⟩ | ⟨_, b, e⟩
      · exact .inl ⟨t, a, b, e⟩
      · exact .inr ⟨b, e⟩
    -- the kind
    refine cut_next (fun s' => ∃ t, St c φ' (("serialization_type", .str l' t) :: ("node", .ref x) :: m') [(da, oi), z] s') ?_ ?_
    · rcases kd' with ⟨t0, rfl, rfl, hv⟩ | ⟨rfl, hne⟩
      · repeat' (first
          | walk_at "s"
          | walk_at "i"
          | (refine ite_two ?_ ?_ <;> intro hc)
          | ((with_reducible refine' r_type (by with_reducible assumption) G (by with_reducible assumption) (by with_reducible assumption) cl ?_); intro _ _ _)
          | ((with_reducible refine' r_slot (by with_reducible assumption) G (by with_reducible assumption) (by with_reducible assumption) ?F hv rfl ?_); (case F => walk_at "getf"); intro _ _))
        · exact absurd hc (by simp [LIT])
        · exact ⟨rfl, _, by assumption⟩
      · repeat' (first
          | walk_at "s"
          | walk_at "i"
          | (refine ite_two ?_ ?_ <;> intro hc)
          | ((with_reducible refine' r_type (by with_reducible assumption) G (by with_reducible assumption) (by with_reducible assumption) cl ?_); intro _ _ _))
        · exact ⟨rfl, _, by assumption⟩
        · exact absurd (by simpa using hc) hne
    rintro s4 ⟨t4, H4⟩
    -- the mark
    refine cut_next (fun s' => ∃ o' , St c φ' (("serialization_type", .str l' t4) :: ("node", .ref x) :: m') [(da, o'), z] s' ∧ Ck o' (ki + 1) (T0 ++ X ++ markV l l' T)) ?_ ?_
    · have sbad : ∀ {A' : Around} {m' : List (Str × Value)} {R' : List (Addr × Obj)} {s' : Shared} {Q' : Value → Shared → Prop}, Rm A' 2 → St c φ' m' R' s' → (∀ s'', St c φ' m' R' s'' → Q' (.bool (badV pv l')) s'') → wpAny (model PG w) A' (call (.ref 49) [pv, .str l' t4]) Q' NoE s' :=
        fun r' H' h' => c_bad (n := 0) G H'.inv r' hsn fun s'' pr I' => h' s'' (H'.call0 pr I')
      have R2 : Rm _ 2 := r.less (by unfold RN; lia)
      clear H3
      repeat' (first
        | walk_at "s"
        | walk_at "call"
        | (refine ite_two ?_ ?_ <;> intro hc)
        | ((with_reducible refine' sbad R2 (by with_reducible assumption) ?_); intro _ _)
        | (with_reducible refine r_eq_key hsn ?_)
        | ((with_reducible show wpAny _ _ (getAttr (Value.ref _) _ _) _ _ _); (obtain ⟨rfl, tw, hv⟩ := ws (eq_of_beq (by assumption))); (refine' r_slot (by with_reducible assumption) G (by with_reducible assumption) (by with_reducible assumption) ?F hv rfl ?_); (case F => walk_at "getf"); intro _ _)
        | ((with_reducible show wpAny _ _ (call (Value.builtin "str.startswith") _) _ _ _); (refine SC.startswith ?_)))
      all_goals first
        | exact absurd ‹(!true) = true› (by decide)
        | exact absurd rfl ‹¬ (!false) = true›
        | exact ⟨rfl, _, by with_reducible assumption, Ck.cast (by with_reducible assumption) (by rw [k1 (by assumption), e47c])⟩
        | exact ⟨rfl, _, by with_reducible assumption, Ck.cast (by with_reducible assumption) (by rw [k2 (by assumption) (by assumption) (by assumption), e10c])⟩
        | exact ⟨rfl, _, by with_reducible assumption, Ck.cast (by with_reducible assumption) (by rw [k3 (by assumption) (by assumption) (by assumption), e10c])⟩
        | exact ⟨rfl, _, by with_reducible assumption, (hck'.le (Nat.le_succ _)).cast (by rw [k4 (by assumption) (by assumption) (by assumption) (by assumption), List.append_nil])⟩
        | exact ⟨rfl, _, by with_reducible assumption, (hck'.le (Nat.le_succ _)).cast (by rw [k5 (by assumption) (by assumption), List.append_nil])⟩
    rintro s5 ⟨o5, H5, hk5⟩
    clear H3 H4 hck'
    repeat' (first
      | walk_at "s"
      | walk_at "call"
      | (refine ite_two ?_ ?_ <;> intro hc)
      | (with_reducible refine' r_ser (by with_reducible assumption) G (by with_reducible assumption) (by with_reducible assumption) cl ?_)
      | ((with_reducible show wpAny _ _ (callWith _ _ _ _ _) _ _ _); (refine' r_kcall (by with_reducible assumption) G cl.kp ?he ?hp ?_); (case he => with_unfolding_all rfl); (case hp => with_unfolding_all rfl))
      | ((with_reducible show wpAny _ _ (call (Value.ref _) _) _ _ _); (refine' s_wr wr (by with_reducible assumption) hle (by with_reducible assumption) r (by with_reducible assumption) ?hz ?_); (case hz => lia); intro _ _ _ _))
    · have hd : isDecl l' = [59] := by unfold isDecl; rw [if_pos hc]
      refine ⟨φ', _, _, St.swap (by with_reducible assumption), Fz.le_refl _, rfl, _, _, rfl, Ck.le (Ck.cast (by with_reducible assumption) ?_) ?_, by walk_at "lk", Lk.here, .inr ⟨_, rfl⟩⟩
      · rw [hd, e59]; simp
      · rw [hki2]; lia
    · have hd : isDecl l' = [] := by unfold isDecl; rw [if_neg hc]
      refine ⟨φ', _, _, St.swap (by with_reducible assumption), Fz.le_refl _, rfl, _, _, rfl, Ck.le (Ck.cast (by with_reducible assumption) ?_) ?_, by walk_at "lk", Lk.here, .inr ⟨_, rfl⟩⟩
      · rw [hd]; simp
      · rw [hki2]; lia
  · rintro φ' m' R' s2 ⟨rfl, oi, pv, rfl, hck', hw, hp, hpv⟩ _ H2
    have hlen := hn.length
    rw [show told.take its.size = told from List.take_of_length_le (by rw [← hlen]; simp), show its.size = told.length by rw [← hlen]; simp] at hck'
    repeat' (first | walk_at "s" | walk_at "call" | (refine ite_two ?_ ?_ <;> intro hc))
    exact h _ _ (St.done (by assumption) eD) (St.inv (by assumption)) (St.get (by assumption) 0 rfl) hck'
/-- a list of nodes -/
structure Rw (w : World) (g0 : Heap) (P : Addr) (κ : Fz) (d : Nat) (la : Addr) (told : List (Str × List Nat)) : Prop where
  at_ : ∃ lo its, κ la = some lo ∧ LstO lo its ∧ All2 (Nd w g0 P κ d) its.toList told
theorem Rw.up {w : World} {g0 : Heap} {P : Addr} {κ κ' : Fz} {d : Nat} {la : Addr} {told : List (Str × List Nat)} (h : Rw w g0 P κ d la told) (le : Fz.le κ κ') : Rw w g0 P κ' d la told :=
  let ⟨lo, its, a, b, e⟩ := h.at_; ⟨lo, its, le _ _ a, b, e.mono fun _ _ x => x.up le⟩
theorem s_ser {w : World} {A : Around} {c : Cx} {φ κ : Fz} {m : List (Str × Value)} {R : List (Addr × Obj)} {s : Shared} {d k : Nat} {b da la : Addr} {o : Obj} {T0 : List Nat} {told : List (Str × List Nat)} {Q : Value → Shared → Prop} (H : St c φ m ((da, o) :: R) s) (G : GW w c.g0 c.P) (le : Fz.le κ φ) (hb : φ b = some (bnd da))
    (r : Rm A (RN d + 1)) (hr : Rw w c.g0 c.P κ d la told) (hk : Ck o k T0) (hz : k + told.length * (Zb d + 2) ≤ 16777216)
    (h : ∀ o' s', Ck o' (k + told.length * (Zb d + 2)) (T0 ++ joinV (Str.ofString "") told) → St c φ m ((da, o') :: R) s' → Q .none s') : wpAny (model PG w) A (call (.ref 42) [.ref la, .ref b]) Q NoE s := by
  obtain ⟨lo, its, hl, hlo, hn⟩ := hr.at_
  have L := H.led _ (.head _)
  refine c_ser G H.inv r (fun y o' e => ⟨H.fz _ _ (le _ _ e), fun q => ?_, fun q => ?_⟩) hl hlo hn (H.fz _ _ hb) L.1 L.2.2.2 hk hz fun s' o' pr I' ho' hk' => h o' s' hk' (H.call1 0 rfl pr I' ho')
  · have := le _ _ e; rw [q, H.Pφ] at this; cases this
  · have := le _ _ e; rw [q, L.2.1] at this; cases this
theorem Zb_succ (d : Nat) : Zb (d + 1) = 20 * Zb d := by unfold Zb; rw [Nat.pow_succ]; lia
theorem Zb_pos (d : Nat) : 64 ≤ Zb d := Nat.le_mul_of_pos_right 64 (Nat.pow_pos (by decide))
theorem len4 {n z : Nat} (h : n ≤ 4) : n * (z + 2) ≤ 4 * z + 8 := by
  have := Nat.mul_le_mul_right (z + 2) h; lia
/-- what follows a call whose last argument it is: true where a text never ends -/
inductive Last (w : World) (κ : Fz) : Nat → Value → Bool → Prop
  | eof {x dx : Addr} {sl : Array (Option Value)} {t : Tok} (hx : κ x = some (ins 117 dx sl)) (hdx : κ dx = some emptyDict) (hv : (sl[0]?).join = some (.str (Str.ofString "eof-in-string") t)) : Last w κ 0 (.ref x) true
  | err {x dx : Addr} {sl : Array (Option Value)} {k : Str} {t : Tok} (hx : κ x = some (ins 117 dx sl)) (hdx : κ dx = some emptyDict) (hv : (sl[0]?).join = some (.str k t)) (hk : k ≠ Str.ofString "eof-in-string") : Last w κ 0 (.ref x) false
  | oth {x C f dx : Addr} {sl : Array (Option Value)} {ty : Str} (hx : κ x = some (ins C dx sl)) (hdx : κ dx = some emptyDict) (cl : Cls (KF w.params) C f ty) (h1 : C ≠ 613) (h2 : C ≠ 117) : Last w κ 0 (.ref x) false
  | emp {x dx la : Addr} {sl : Array (Option Value)} {lo : Obj} (hx : κ x = some (ins 613 dx sl)) (hdx : κ dx = some emptyDict) (ha : (sl[0]?).join = some (.ref la)) (hl : κ la = some lo) (ho : LstO lo #[]) : Last w κ 0 (.ref x) false
  | fn {k : Nat} {x dx la : Addr} {sl : Array (Option Value)} {lo : Obj} {its : Array Value} {u : Value} {b : Bool} (hx : κ x = some (ins 613 dx sl)) (hdx : κ dx = some emptyDict) (ha : (sl[0]?).join = some (.ref la)) (hl : κ la = some lo) (ho : LstO lo its) (hz : its.size < 1000000) (hu : its.toList.getLast? = some u) (h : Last w κ k u b) : Last w κ (k + 1) (.ref x) b
theorem Last.up {w : World} {κ κ' : Fz} (le : Fz.le κ κ') : ∀ {k : Nat} {v : Value} {b : Bool}, Last w κ k v b → Last w κ' k v b
  | _, _, _, .eof a b e => .eof (le _ _ a) (le _ _ b) e
  | _, _, _, .err a b e f => .err (le _ _ a) (le _ _ b) e f
  | _, _, _, .oth a b e f g => .oth (le _ _ a) (le _ _ b) e f g
  | _, _, _, .emp a b e f g => .emp (le _ _ a) (le _ _ b) e (le _ _ f) g
  | _, _, _, .fn a b e f g h i j => .fn (le _ _ a) (le _ _ b) e (le _ _ f) g h i (j.up le)
theorem wr_Paren {w : World} {g0 : Heap} {P : Addr} {κ : Fz} {d : Nat} {x dx : Addr} {v1 v2 : Value} {la : Addr} {told : List (Str × List Nat)} (G : GW w g0 P) (hx : κ x = some (ins 526 dx #[some (.ref la), some v2, some v1])) (hdx : κ dx = some emptyDict) (hr : Rw w g0 P κ d la told) (h4 : told.length ≤ 4) : Wr w g0 P κ (d + 1) 522 x ([40] ++ joinV (Str.ofString "") told ++ [41]) := by
  refine' Wr.intro G ?ho ?hcd ?hbind ?body ?hloc ?hcell ?hco ?hgen ?hk
  walk_at "inw"
  intro A c φ s₁ b da o k T0 Q e1 e2 le hb hck hz H r fin; subst e1 e2
  have hx := le _ _ hx
  have hdx := le _ _ hdx
  have hz0 := Zb_pos d
  have hz1 := Zb_succ d
  have R3 : Rm _ 3 := r.less (by lia)
  have R1 : Rm _ (RN d + 1) := r.less (by unfold RN; lia)
  have h5 := len4 (z := Zb d) h4
  repeat' (first
    | walk_at "s"
    | walk_at "call"
    | walk_at "i"
    | (refine ite_two ?_ ?_ <;> intro hc)
    | ((with_reducible show wpAny _ _ (call (Value.ref 42) [Value.ref la, _]) _ _ _); (refine' s_ser (by with_reducible assumption) G le (by with_reducible assumption) R1 hr (by with_reducible assumption) ?hz ?_); (case hz => lia); intro _ _ _ _)
    | (exact fin _ _ _ _ _ _ (by with_reducible assumption) (by with_reducible assumption) (by lia) (by (try walk_at "lit"); (try simp [S]))))
theorem wr_Square {w : World} {g0 : Heap} {P : Addr} {κ : Fz} {d : Nat} {x dx : Addr} {v1 v2 : Value} {la : Addr} {told : List (Str × List Nat)} (G : GW w g0 P) (hx : κ x = some (ins 555 dx #[some (.ref la), some v2, some v1])) (hdx : κ dx = some emptyDict) (hr : Rw w g0 P κ d la told) (h4 : told.length ≤ 4) : Wr w g0 P κ (d + 1) 551 x ([91] ++ joinV (Str.ofString "") told ++ [93]) := by
  refine' Wr.intro G ?ho ?hcd ?hbind ?body ?hloc ?hcell ?hco ?hgen ?hk
  walk_at "inw"
  intro A c φ s₁ b da o k T0 Q e1 e2 le hb hck hz H r fin; subst e1 e2
  have hx := le _ _ hx
  have hdx := le _ _ hdx
  have hz0 := Zb_pos d
  have hz1 := Zb_succ d
  have R3 : Rm _ 3 := r.less (by lia)
  have R1 : Rm _ (RN d + 1) := r.less (by unfold RN; lia)
  have h5 := len4 (z := Zb d) h4
  repeat' (first
    | walk_at "s"
    | walk_at "call"
    | walk_at "i"
    | (refine ite_two ?_ ?_ <;> intro hc)
    | ((with_reducible show wpAny _ _ (call (Value.ref 42) [Value.ref la, _]) _ _ _); (refine' s_ser (by with_reducible assumption) G le (by with_reducible assumption) R1 hr (by with_reducible assumption) ?hz ?_); (case hz => lia); intro _ _ _ _)
    | (exact fin _ _ _ _ _ _ (by with_reducible assumption) (by with_reducible assumption) (by lia) (by (try walk_at "lit"); (try simp [S]))))
theorem wr_Curly {w : World} {g0 : Heap} {P : Addr} {κ : Fz} {d : Nat} {x dx : Addr} {v1 v2 : Value} {la : Addr} {told : List (Str × List Nat)} (G : GW w g0 P) (hx : κ x = some (ins 584 dx #[some (.ref la), some v2, some v1])) (hdx : κ dx = some emptyDict) (hr : Rw w g0 P κ d la told) (h4 : told.length ≤ 4) : Wr w g0 P κ (d + 1) 580 x ([123] ++ joinV (Str.ofString "") told ++ [125]) := by
  refine' Wr.intro G ?ho ?hcd ?hbind ?body ?hloc ?hcell ?hco ?hgen ?hk
  walk_at "inw"
  intro A c φ s₁ b da o k T0 Q e1 e2 le hb hck hz H r fin; subst e1 e2
  have hx := le _ _ hx
  have hdx := le _ _ hdx
  have hz0 := Zb_pos d
  have hz1 := Zb_succ d
  have R3 : Rm _ 3 := r.less (by lia)
  have R1 : Rm _ (RN d + 1) := r.less (by unfold RN; lia)
  have h5 := len4 (z := Zb d) h4
  repeat' (first
    | walk_at "s"
    | walk_at "call"
    | walk_at "i"
    | (refine ite_two ?_ ?_ <;> intro hc)
    | ((with_reducible show wpAny _ _ (call (Value.ref 42) [Value.ref la, _]) _ _ _); (refine' s_ser (by with_reducible assumption) G le (by with_reducible assumption) R1 hr (by with_reducible assumption) ?hz ?_); (case hz => lia); intro _ _ _ _)
    | (exact fin _ _ _ _ _ _ (by with_reducible assumption) (by with_reducible assumption) (by lia) (by (try walk_at "lit"); (try simp [S]))))
theorem wr_Rule {w : World} {g0 : Heap} {P : Addr} {κ : Fz} {d : Nat} {x dx : Addr} {v1 v2 : Value} {la lb : Addr} {told told2 : List (Str × List Nat)} (G : GW w g0 P) (hx : κ x = some (ins 676 dx #[some (.ref lb), some (.ref la), some v2, some v1])) (hdx : κ dx = some emptyDict) (hr : Rw w g0 P κ d la told) (h4 : told.length ≤ 4) (hr2 : Rw w g0 P κ d lb told2) (h42 : told2.length ≤ 4) : Wr w g0 P κ (d + 1) 672 x (joinV (Str.ofString "") told ++ [123] ++ joinV (Str.ofString "") told2 ++ [125]) := by
  refine' Wr.intro G ?ho ?hcd ?hbind ?body ?hloc ?hcell ?hco ?hgen ?hk
  walk_at "inw"
  intro A c φ s₁ b da o k T0 Q e1 e2 le hb hck hz H r fin; subst e1 e2
  have hx := le _ _ hx
  have hdx := le _ _ hdx
  have hz0 := Zb_pos d
  have hz1 := Zb_succ d
  have R3 : Rm _ 3 := r.less (by lia)
  have R1 : Rm _ (RN d + 1) := r.less (by unfold RN; lia)
  have h5 := len4 (z := Zb d) h4
  have h6 := len4 (z := Zb d) h42
  repeat' (first
    | walk_at "s"
    | walk_at "call"
    | walk_at "i"
    | (refine ite_two ?_ ?_ <;> intro hc)
    | ((with_reducible show wpAny _ _ (call (Value.ref 42) [Value.ref la, _]) _ _ _); (refine' s_ser (by with_reducible assumption) G le (by with_reducible assumption) R1 hr (by with_reducible assumption) ?hz ?_); (case hz => lia); intro _ _ _ _)
    | ((with_reducible show wpAny _ _ (call (Value.ref 42) [Value.ref lb, _]) _ _ _); (refine' s_ser (by with_reducible assumption) G le (by with_reducible assumption) R1 hr2 (by with_reducible assumption) ?hz ?_); (case hz => lia); intro _ _ _ _)
    | (exact fin _ _ _ _ _ _ (by with_reducible assumption) (by with_reducible assumption) (by lia) (by (try walk_at "lit"); (try simp [S]))))
theorem wr_Declaration {w : World} {g0 : Heap} {P : Addr} {κ : Fz} {d : Nat} {x dx : Addr} {v1 v2 : Value} {la : Addr} {told : List (Str × List Nat)} {u1 : Value} {a : Nat} {l : List Nat} {t : Tok} {imp : Bool} (G : GW w g0 P) (hx : κ x = some (ins 644 dx #[some (.bool imp), some u1, some (.str (S (a :: l)) t), some (.ref la), some v2, some v1])) (hdx : κ dx = some emptyDict) (hr : Rw w g0 P κ d la told) (h4 : told.length ≤ 4) (hl : (a :: l).length ≤ 4096) : Wr w g0 P κ (d + 1) 640 x (idn (a :: l) ++ [58] ++ joinV (Str.ofString "") told ++ (if imp = true then [33, 105, 109, 112, 111, 114, 116, 97, 110, 116] else [])) := by
  refine' Wr.intro G ?ho ?hcd ?hbind ?body ?hloc ?hcell ?hco ?hgen ?hk
  walk_at "inw"
  intro A c φ s₁ b da o k T0 Q e1 e2 le hb hck hz H r fin; subst e1 e2
  have hx := le _ _ hx
  have hdx := le _ _ hdx
  have hz0 := Zb_pos d
  have hz1 := Zb_succ d
  have R3 : Rm _ 3 := r.less (by lia)
  have R1 : Rm _ (RN d + 1) := r.less (by unfold RN; lia)
  have h5 := len4 (z := Zb d) h4
  have sid : ∀ {A' : Around} {φ : Fz} {m' : List (Str × Value)} {R' : List (Addr × Obj)} {s' : Shared} {Q' : Value → Shared → Prop} {a : Nat} {l : List Nat} {t : Tok}, (a :: l).length ≤ 1048576 → Rm A' 3 → St c φ m' R' s' → (∀ t' s'', St c φ m' R' s'' → Q' (.str (S (idn (a :: l))) t') s'') → wpAny (model PG w) A' (call (.ref 28) [.str (S (a :: l)) t]) Q' NoE s' :=
    fun hl r' H' h' => c_ident (n := 1) G H'.inv r' hl fun t' s'' pr I' => h' t' s'' (H'.call0 pr I')
  repeat' (first
    | walk_at "s"
    | walk_at "call"
    | walk_at "i"
    | (refine ite_two ?_ ?_ <;> intro hc)
    | ((with_reducible show wpAny _ _ (call (Value.ref 42) [Value.ref la, _]) _ _ _); (refine' s_ser (by with_reducible assumption) G le (by with_reducible assumption) R1 hr (by with_reducible assumption) ?hz ?_); (case hz => lia); intro _ _ _ _)
    | ((with_reducible refine' sid ?hl R3 (by with_reducible assumption) ?_); (case hl => (simp only [List.length_cons] at hl ⊢; lia)); intro _ _ _))
  · exact fin _ _ _ _ _ _ (by with_reducible assumption) (by with_reducible assumption) (by lia) (by rw [if_pos hc, show Str.ofString "!important" = S [33, 105, 109, 112, 111, 114, 116, 97, 110, 116] by decide +kernel]; (try walk_at "lit"); simp [S])
  · exact fin _ _ _ _ _ _ (by with_reducible assumption) (by with_reducible assumption) (by lia) (by rw [if_neg hc]; (try walk_at "lit"); simp [S])
theorem wr_At0 {w : World} {g0 : Heap} {P : Addr} {κ : Fz} {d : Nat} {x dx : Addr} {v1 v2 : Value} {la : Addr} {told : List (Str × List Nat)} {u1 : Value} {a : Nat} {l : List Nat} {t : Tok} (G : GW w g0 P) (hx : κ x = some (ins 706 dx #[some (.str (S (a :: l)) t), some (.none), some u1, some (.ref la), some v2, some v1])) (hdx : κ dx = some emptyDict) (hr : Rw w g0 P κ d la told) (h4 : told.length ≤ 4) (hl : (a :: l).length ≤ 4096) : Wr w g0 P κ (d + 1) 702 x (64 :: idn (a :: l) ++ joinV (Str.ofString "") told ++ [59]) := by
  refine' Wr.intro G ?ho ?hcd ?hbind ?body ?hloc ?hcell ?hco ?hgen ?hk
  walk_at "inw"
  intro A c φ s₁ b da o k T0 Q e1 e2 le hb hck hz H r fin; subst e1 e2
  have hx := le _ _ hx
  have hdx := le _ _ hdx
  have hz0 := Zb_pos d
  have hz1 := Zb_succ d
  have R3 : Rm _ 3 := r.less (by lia)
  have R1 : Rm _ (RN d + 1) := r.less (by unfold RN; lia)
  have h5 := len4 (z := Zb d) h4
  have sid : ∀ {A' : Around} {φ : Fz} {m' : List (Str × Value)} {R' : List (Addr × Obj)} {s' : Shared} {Q' : Value → Shared → Prop} {a : Nat} {l : List Nat} {t : Tok}, (a :: l).length ≤ 1048576 → Rm A' 3 → St c φ m' R' s' → (∀ t' s'', St c φ m' R' s'' → Q' (.str (S (idn (a :: l))) t') s'') → wpAny (model PG w) A' (call (.ref 28) [.str (S (a :: l)) t]) Q' NoE s' :=
    fun hl r' H' h' => c_ident (n := 1) G H'.inv r' hl fun t' s'' pr I' => h' t' s'' (H'.call0 pr I')
  repeat' (first
    | walk_at "s"
    | walk_at "call"
    | walk_at "i"
    | (refine ite_two ?_ ?_ <;> intro hc <;> first | (exact absurd hc (by decide)) | skip)
    | ((with_reducible show wpAny _ _ (call (Value.ref 42) [Value.ref la, _]) _ _ _); (refine' s_ser (by with_reducible assumption) G le (by with_reducible assumption) R1 hr (by with_reducible assumption) ?hz ?_); (case hz => lia); intro _ _ _ _)
    | ((with_reducible refine' sid ?hl R3 (by with_reducible assumption) ?_); (case hl => (simp only [List.length_cons] at hl ⊢; lia)); intro _ _ _)
    | (with_reducible refine PyProof.Rows.is_none_none ?_)
    | (with_reducible refine PyProof.Rows.is_ref_none ?_)
    | (exact fin _ _ _ _ _ _ (by with_reducible assumption) (by with_reducible assumption) (by lia) (by (try walk_at "lit"); (try simp [S]))))
theorem wr_At1 {w : World} {g0 : Heap} {P : Addr} {κ : Fz} {d : Nat} {x dx : Addr} {v1 v2 : Value} {la lb : Addr} {told told2 : List (Str × List Nat)} {u1 : Value} {a : Nat} {l : List Nat} {t : Tok} (G : GW w g0 P) (hx : κ x = some (ins 706 dx #[some (.str (S (a :: l)) t), some (.ref lb), some u1, some (.ref la), some v2, some v1])) (hdx : κ dx = some emptyDict) (hr : Rw w g0 P κ d la told) (h4 : told.length ≤ 4) (hr2 : Rw w g0 P κ d lb told2) (h42 : told2.length ≤ 4) (hl : (a :: l).length ≤ 4096) : Wr w g0 P κ (d + 1) 702 x (64 :: idn (a :: l) ++ joinV (Str.ofString "") told ++ [123] ++ joinV (Str.ofString "") told2 ++ [125]) := by
  refine' Wr.intro G ?ho ?hcd ?hbind ?body ?hloc ?hcell ?hco ?hgen ?hk
  walk_at "inw"
  intro A c φ s₁ b da o k T0 Q e1 e2 le hb hck hz H r fin; subst e1 e2
  have hx := le _ _ hx
  have hdx := le _ _ hdx
  have hz0 := Zb_pos d
  have hz1 := Zb_succ d
  have R3 : Rm _ 3 := r.less (by lia)
  have R1 : Rm _ (RN d + 1) := r.less (by unfold RN; lia)
  have h5 := len4 (z := Zb d) h4
  have h6 := len4 (z := Zb d) h42
  have sid : ∀ {A' : Around} {φ : Fz} {m' : List (Str × Value)} {R' : List (Addr × Obj)} {s' : Shared} {Q' : Value → Shared → Prop} {a : Nat} {l : List Nat} {t : Tok}, (a :: l).length ≤ 1048576 → Rm A' 3 → St c φ m' R' s' → (∀ t' s'', St c φ m' R' s'' → Q' (.str (S (idn (a :: l))) t') s'') → wpAny (model PG w) A' (call (.ref 28) [.str (S (a :: l)) t]) Q' NoE s' :=
    fun hl r' H' h' => c_ident (n := 1) G H'.inv r' hl fun t' s'' pr I' => h' t' s'' (H'.call0 pr I')
  repeat' (first
    | walk_at "s"
    | walk_at "call"
    | walk_at "i"
    | (refine ite_two ?_ ?_ <;> intro hc <;> first | (exact absurd hc (by decide)) | skip)
    | ((with_reducible show wpAny _ _ (call (Value.ref 42) [Value.ref la, _]) _ _ _); (refine' s_ser (by with_reducible assumption) G le (by with_reducible assumption) R1 hr (by with_reducible assumption) ?hz ?_); (case hz => lia); intro _ _ _ _)
    | ((with_reducible show wpAny _ _ (call (Value.ref 42) [Value.ref lb, _]) _ _ _); (refine' s_ser (by with_reducible assumption) G le (by with_reducible assumption) R1 hr2 (by with_reducible assumption) ?hz ?_); (case hz => lia); intro _ _ _ _)
    | ((with_reducible refine' sid ?hl R3 (by with_reducible assumption) ?_); (case hl => (simp only [List.length_cons] at hl ⊢; lia)); intro _ _ _)
    | (with_reducible refine PyProof.Rows.is_none_none ?_)
    | (with_reducible refine PyProof.Rows.is_ref_none ?_)
    | (exact fin _ _ _ _ _ _ (by with_reducible assumption) (by with_reducible assumption) (by lia) (by (try walk_at "lit"); (try simp [S]))))
theorem len5 {n z : Nat} (h : n ≤ 5) : n * (z + 2) ≤ 5 * z + 10 := by
  have := Nat.mul_le_mul_right (z + 2) h; lia
theorem wr_Function {w : World} {g0 : Heap} {P : Addr} {κ : Fz} {d : Nat} {x dx : Addr} {v1 v2 : Value} {la : Addr} {told : List (Str × List Nat)} {u1 : Value} {a : Nat} {l : List Nat} {t : Tok} {kk : Nat} {bo : Bool} (G : GW w g0 P) (hx : κ x = some (ins 613 dx #[some (.ref la), some u1, some (.str (S (a :: l)) t), some v2, some v1])) (hdx : κ dx = some emptyDict)
    (hr : Rw w g0 P κ d la told) (h4 : told.length ≤ 5) (hl : (a :: l).length ≤ 4096) (hla : Last w κ kk (.ref x) bo) : Wr w g0 P κ (d + 1) 609 x (idn (a :: l) ++ [40] ++ joinV (Str.ofString "") told ++ (if bo = true then [] else [41])) := by
  refine' Wr.intro G ?ho ?hcd ?hbind ?body ?hloc ?hcell ?hco ?hgen ?hk
  walk_at "inw"
  intro A c φ s₁ b da o k T0 Q e1 e2 le hb hck hz H r fin; subst e1 e2
  have hx := le _ _ hx
  have hdx := le _ _ hdx
  have hz0 := Zb_pos d
  have hz1 := Zb_succ d
  have R3 : Rm _ 3 := r.less (by lia)
  have R1 : Rm _ (RN d + 1) := r.less (by unfold RN; lia)
  have h5 := len5 (z := Zb d) h4
  have sid : ∀ {A' : Around} {φ : Fz} {m' : List (Str × Value)} {R' : List (Addr × Obj)} {s' : Shared} {Q' : Value → Shared → Prop} {a : Nat} {l : List Nat} {t : Tok}, (a :: l).length ≤ 1048576 → Rm A' 3 → St c φ m' R' s' → (∀ t' s'', St c φ m' R' s'' → Q' (.str (S (idn (a :: l))) t') s'') → wpAny (model PG w) A' (call (.ref 28) [.str (S (a :: l)) t]) Q' NoE s' :=
    fun hl r' H' h' => c_ident (n := 1) G H'.inv r' hl fun t' s'' pr I' => h' t' s'' (H'.call0 pr I')
  repeat' (first
    | walk_at "s"
    | walk_at "call"
    | ((with_reducible refine' sid ?hl R3 (by with_reducible assumption) ?_); (case hl => (simp only [List.length_cons] at hl ⊢; lia)); intro _ _ _)
    | ((with_reducible show wpAny _ _ (call (Value.ref 42) [Value.ref la, _]) _ _ _); (refine' s_ser (by with_reducible assumption) G le (by with_reducible assumption) R1 hr (by with_reducible assumption) ?hz ?_); (case hz => lia); intro _ _ _ _))
  have hla := Last.up le hla
  have e40 : (Str.ofString "(").cps.toList = [40] := by decide +kernel
  have e41 : (Str.ofString ")").cps.toList = [41] := by decide +kernel
  refine r_while (fun n s' => ∃ m' o' v, St c φ m' [(da, o')] s' ∧ Ck o' (k + 1 + 1 + told.length * (Zb d + 2)) (T0 ++ (idn (a :: l) ++ [40] ++ joinV (Str.ofString "") told)) ∧ Lk m' (Str.ofString "write") (.ref b) ∧ Lk m' (Str.ofString "function") v ∧ Last w φ n v bo ∧ (bo = false ∨ ∃ y dy sl, v = .ref y ∧ φ y = some (ins 613 dy sl) ∧ φ dy = some emptyDict)) ?_ kk
    ⟨_, _, .ref x, by with_reducible assumption, Ck.cast (by with_reducible assumption) (by rw [e40]; simp [S]), by walk_at "lk", by walk_at "lk", hla, .inr ⟨x, dx, _, rfl, hx, hdx⟩⟩
  rintro n s2 ⟨m', o', v, H2, hk2, hw, hf, hL, hbo⟩
  clear hck H
  have n117 := (cls_Function w).n117
  have nF : NI (KF w.params) 613 117 := n117.resolve_left (by decide)
  have nE : NI (KF w.params) 117 613 := (cls_ParseError w).n613.resolve_left (by decide)
  cases hL with
  | eof hx' hdx' hv' =>
    rcases hbo with e | ⟨y, dy, sl', e, hy, _⟩
    · cases e
    · cases e; rw [hx'] at hy; have := congrArg Obj.cls (Option.some.inj hy); simp at this
  | err hx' hdx' hv' hk' =>
    repeat' (first
      | walk_at "s"
      | walk_at "call"
      | ((with_reducible show wpAny _ _ (call (Value.builtin "isinstance") _) _ _ _); (refine' r_isno (by with_reducible assumption) G hx' hdx' (cls_ParseError w).cf nE ?_); intro _ _)
      | (exact fin _ _ _ _ _ _ (by with_reducible assumption) (by with_reducible assumption) (by lia) (by rw [e41]; simp)))
  | oth hx' hdx' cl h1 h2 =>
    repeat' (first
      | walk_at "s"
      | walk_at "call"
      | ((with_reducible show wpAny _ _ (call (Value.builtin "isinstance") _) _ _ _); (refine' r_isno (by with_reducible assumption) G hx' hdx' cl.cf (cl.n613.resolve_left h1) ?_); intro _ _)
      | (exact fin _ _ _ _ _ _ (by with_reducible assumption) (by with_reducible assumption) (by lia) (by rw [e41]; simp)))
  | emp hx' hdx' ha' hl' ho' =>
    repeat' (first
      | walk_at "s"
      | walk_at "call"
      | ((with_reducible show wpAny _ _ (call (Value.builtin "isinstance") _) _ _ _); (refine' r_isyes (by with_reducible assumption) G hx' hdx' ?_); intro _ _)
      | ((with_reducible refine' r_slot (by with_reducible assumption) G hx' hdx' ?F ha' rfl ?_); (case F => walk_at "getf"); intro _ _)
      | ((with_reducible refine' r_truthy_l (bb := false) (by with_reducible assumption) hl' ho' ?hz ?e ?_); (case hz => decide); (case e => rfl); intro _ _)
      | (exact fin _ _ _ _ _ _ (by with_reducible assumption) (by with_reducible assumption) (by lia) (by rw [e41]; simp)))
  | @fn j y dy la' sl lo its u _ hx' hdx' ha' hl' ho' hz' hu' h' =>
    have hne : its.isEmpty = false := by
      cases q : its.isEmpty with
      | false => rfl
      | true => rw [Array.isEmpty_iff] at q; subst q; simp at hu'
    repeat' (first
      | walk_at "s"
      | walk_at "call"
      | (refine ite_two ?_ ?_ <;> intro hc)
      | ((with_reducible refine' r_slot (by with_reducible assumption) G hx' hdx' ?F ha' rfl ?_); (case F => walk_at "getf"); intro _ _)
      | ((with_reducible refine' r_truthy_l (bb := true) (by with_reducible assumption) hl' ho' ?hz ?e ?_); (case hz => lia); (case e => rw [hne]; rfl); intro _ _)
      | ((with_reducible refine' r_neg (by with_reducible assumption) ?_); intro _ _ _)
      | ((with_reducible refine' r_last (by with_reducible assumption) hl' ho' ?hi ?hz hu' ?hs ?_); (case hi => rfl); (case hz => lia); (case hs => with_unfolding_all rfl))
      | ((with_reducible show wpAny _ _ (call (Value.builtin "isinstance") [Value.ref y, _]) _ _ _); (refine' r_isyes (by with_reducible assumption) G hx' hdx' ?_); intro _ _))
    have h2 := h'
    cases h2 with
    | @eof x2 dx2 sl2 t2 hx2 hdx2 hv2 =>
      repeat' (first
        | walk_at "s"
        | walk_at "call"
        | (refine ite_two ?_ ?_ <;> intro hc)
        | ((with_reducible refine' r_slot (by with_reducible assumption) G hx' hdx' ?F ha' rfl ?_); (case F => walk_at "getf"); intro _ _)
        | ((with_reducible refine' r_truthy_l (bb := true) (by with_reducible assumption) hl' ho' ?hz ?e ?_); (case hz => lia); (case e => rw [hne]; rfl); intro _ _)
        | ((with_reducible refine' r_neg (by with_reducible assumption) ?_); intro _ _ _)
        | ((with_reducible refine' r_last (by with_reducible assumption) hl' ho' ?hi ?hz hu' ?hs ?_); (case hi => rfl); (case hz => lia); (case hs => with_unfolding_all rfl))
        | ((with_reducible show wpAny _ _ (call (Value.builtin "isinstance") [Value.ref y, _]) _ _ _); (refine' r_isyes (by with_reducible assumption) G hx' hdx' ?_); intro _ _)
        | ((with_reducible show wpAny _ _ (call (Value.builtin "isinstance") _) _ _ _); (refine' r_isyes (by with_reducible assumption) G hx2 hdx2 ?_); intro _ _)
        | ((with_reducible refine' r_slot (by with_reducible assumption) G hx2 hdx2 ?F hv2 rfl ?_); (case F => walk_at "getf"); intro _ _))
      · refine wpAny_Return_none ?_
        exact fin _ _ _ _ _ _ (by with_reducible assumption) (by with_reducible assumption) (by lia) (by simp)
      · exact absurd (by simp) hc
    | @err x2 dx2 sl2 k2 t2 hx2 hdx2 hv2 hk2' =>
      repeat' (first
        | walk_at "s"
        | walk_at "call"
        | (refine ite_two ?_ ?_ <;> intro hc)
        | ((with_reducible refine' r_slot (by with_reducible assumption) G hx' hdx' ?F ha' rfl ?_); (case F => walk_at "getf"); intro _ _)
        | ((with_reducible refine' r_truthy_l (bb := true) (by with_reducible assumption) hl' ho' ?hz ?e ?_); (case hz => lia); (case e => rw [hne]; rfl); intro _ _)
        | ((with_reducible refine' r_neg (by with_reducible assumption) ?_); intro _ _ _)
        | ((with_reducible refine' r_last (by with_reducible assumption) hl' ho' ?hi ?hz hu' ?hs ?_); (case hi => rfl); (case hz => lia); (case hs => with_unfolding_all rfl))
        | ((with_reducible show wpAny _ _ (call (Value.builtin "isinstance") [Value.ref y, _]) _ _ _); (refine' r_isyes (by with_reducible assumption) G hx' hdx' ?_); intro _ _)
        | ((with_reducible show wpAny _ _ (call (Value.builtin "isinstance") _) _ _ _); (refine' r_isyes (by with_reducible assumption) G hx2 hdx2 ?_); intro _ _)
        | ((with_reducible refine' r_slot (by with_reducible assumption) G hx2 hdx2 ?F hv2 rfl ?_); (case F => walk_at "getf"); intro _ _))
      · exact absurd (by simpa using hc) hk2'
      · exact ⟨_, Nat.lt_succ_self _, _, _, _, by with_reducible assumption, by with_reducible assumption, by walk_at "lk", by walk_at "lk", h', .inl rfl⟩
    | @oth x2 C2 f2 dx2 sl2 ty2 hx2 hdx2 cl2 h12 h22 =>
      repeat' (first
        | walk_at "s"
        | walk_at "call"
        | (refine ite_two ?_ ?_ <;> intro hc)
        | ((with_reducible refine' r_slot (by with_reducible assumption) G hx' hdx' ?F ha' rfl ?_); (case F => walk_at "getf"); intro _ _)
        | ((with_reducible refine' r_truthy_l (bb := true) (by with_reducible assumption) hl' ho' ?hz ?e ?_); (case hz => lia); (case e => rw [hne]; rfl); intro _ _)
        | ((with_reducible refine' r_neg (by with_reducible assumption) ?_); intro _ _ _)
        | ((with_reducible refine' r_last (by with_reducible assumption) hl' ho' ?hi ?hz hu' ?hs ?_); (case hi => rfl); (case hz => lia); (case hs => with_unfolding_all rfl))
        | ((with_reducible show wpAny _ _ (call (Value.builtin "isinstance") [Value.ref y, _]) _ _ _); (refine' r_isyes (by with_reducible assumption) G hx' hdx' ?_); intro _ _)
        | ((with_reducible show wpAny _ _ (call (Value.builtin "isinstance") _) _ _ _); (refine' r_isno (by with_reducible assumption) G hx2 hdx2 cl2.cf (cl2.n117.resolve_left h22) ?_); intro _ _))
      · exact ⟨_, Nat.lt_succ_self _, _, _, _, by with_reducible assumption, by with_reducible assumption, by walk_at "lk", by walk_at "lk", h', .inl rfl⟩
    | @emp x2 dx2 la2 sl2 lo2 hx2 hdx2 ha2 hl2 ho2 =>
      repeat' (first
        | walk_at "s"
        | walk_at "call"
        | (refine ite_two ?_ ?_ <;> intro hc)
        | ((with_reducible refine' r_slot (by with_reducible assumption) G hx' hdx' ?F ha' rfl ?_); (case F => walk_at "getf"); intro _ _)
        | ((with_reducible refine' r_truthy_l (bb := true) (by with_reducible assumption) hl' ho' ?hz ?e ?_); (case hz => lia); (case e => rw [hne]; rfl); intro _ _)
        | ((with_reducible refine' r_neg (by with_reducible assumption) ?_); intro _ _ _)
        | ((with_reducible refine' r_last (by with_reducible assumption) hl' ho' ?hi ?hz hu' ?hs ?_); (case hi => rfl); (case hz => lia); (case hs => with_unfolding_all rfl))
        | ((with_reducible show wpAny _ _ (call (Value.builtin "isinstance") [Value.ref y, _]) _ _ _); (refine' r_isyes (by with_reducible assumption) G hx' hdx' ?_); intro _ _)
        | ((with_reducible show wpAny _ _ (call (Value.builtin "isinstance") _) _ _ _); (refine' r_isno (by with_reducible assumption) G hx2 hdx2 (cls_Function w).cf nF ?_); intro _ _))
      · exact ⟨_, Nat.lt_succ_self _, _, _, _, by with_reducible assumption, by with_reducible assumption, by walk_at "lk", by walk_at "lk", h', .inl rfl⟩
    | @fn j2 x2 dx2 la2 sl2 lo2 its2 u2 _ hx2 hdx2 ha2 hl2 ho2 hz2 hu2 h22 =>
      repeat' (first
        | walk_at "s"
        | walk_at "call"
        | (refine ite_two ?_ ?_ <;> intro hc)
        | ((with_reducible refine' r_slot (by with_reducible assumption) G hx' hdx' ?F ha' rfl ?_); (case F => walk_at "getf"); intro _ _)
        | ((with_reducible refine' r_truthy_l (bb := true) (by with_reducible assumption) hl' ho' ?hz ?e ?_); (case hz => lia); (case e => rw [hne]; rfl); intro _ _)
        | ((with_reducible refine' r_neg (by with_reducible assumption) ?_); intro _ _ _)
        | ((with_reducible refine' r_last (by with_reducible assumption) hl' ho' ?hi ?hz hu' ?hs ?_); (case hi => rfl); (case hz => lia); (case hs => with_unfolding_all rfl))
        | ((with_reducible show wpAny _ _ (call (Value.builtin "isinstance") [Value.ref y, _]) _ _ _); (refine' r_isyes (by with_reducible assumption) G hx' hdx' ?_); intro _ _)
        | ((with_reducible show wpAny _ _ (call (Value.builtin "isinstance") _) _ _ _); (refine' r_isno (by with_reducible assumption) G hx2 hdx2 (cls_Function w).cf nF ?_); intro _ _))
      · exact ⟨_, Nat.lt_succ_self _, _, _, _, by with_reducible assumption, by with_reducible assumption, by walk_at "lk", by walk_at "lk", h', .inr ⟨_, _, _, rfl, hx2, hdx2⟩⟩
theorem c_serialize {g0 : Heap} {P : Addr} {w : World} {A : Around} {s : Shared} {d : Nat} {Q : Value → Shared → Prop} (G : GW w g0 P) (I : Inv g0 P s) (r : Rm A (RN d + 2)) {κ : Fz} {la : Addr} {told : List (Str × List Nat)}
    (hκ : ∀ y o, κ y = some o → s.heap.get? y = some o ∧ y ≠ P) (hr : Rw w g0 P κ d la told) (hz : told.length * (Zb d + 2) ≤ 16777216) (hT : (joinV (Str.ofString "") told).length ≤ 16777216)
    (h : ∀ t' s', Pres P [] s s' → Inv g0 P s' → Q (.str (S (joinV (Str.ofString "") told)) t') s') : wpAny (model PG w) A (call (.ref 21) [.ref la]) Q NoE s := by
  refine' enter (binds := [("nodes", .ref la)]) (m := [("nodes", .ref la)]) (Ds := []) G I r [] (by simp) (by simp) ?ho ?hcd ?hbind ?hm ?hDs ?body ?hloc ?hcell ?hco ?hgen ?hk
  walk_at "in"
  intro c φ s₁ e1 e2 e3 eD hφ H r; subst e1 e2 e3
  have le : Fz.le κ φ := fun y o' e => (hφ y o').mpr ⟨(hκ y o' e).1, by simp, (hκ y o' e).2⟩
  repeat' (first
    | ((with_reducible refine r_list0 (by with_reducible assumption) ?_); intro _ _ _ _ _)
    | ((with_reducible refine' r_callG (by with_reducible assumption) G ?k ?d ?e ?_); (case k => k_is); (case d => with_unfolding_all rfl); (case e => with_unfolding_all rfl))
    | walk_at "s"
    | (with_reducible refine And.intro (AliveG.of (by with_reducible assumption)) ?_)
    | ((with_reducible refine r_boundF (by with_reducible assumption) (by with_reducible assumption) ?_); intro _ _ _ _ _ _)
    | ((with_reducible show wpAny _ _ (call (Value.ref 42) _) _ _ _); (refine' s_ser (by with_reducible assumption) G (le.trans (by with_reducible assumption)) (by with_reducible assumption) r hr (Ck.new (And.left (by with_reducible assumption))) ?hz ?_); (case hz => lia); intro _ _ _ _)
    | ((with_reducible show wpAny _ _ (call (Value.builtin "str.join") _) _ _ _); (refine r_joinC (by with_reducible assumption) (by with_reducible assumption) ?hz ?_); (case hz => simpa using hT); intro _ _ _))
  rw [List.nil_append]
  exact h _ _ (St.done (by assumption) eD) (St.inv (by assumption))
theorem c_nser {g0 : Heap} {P : Addr} {w : World} {A : Around} {s : Shared} {d : Nat} {Q : Value → Shared → Prop} (G : GW w g0 P) (I : Inv g0 P s) (r : Rm A (RN d + 1)) {κ : Fz} {x : Addr} {q : Str × List Nat}
    (hκ : ∀ y o, κ y = some o → s.heap.get? y = some o ∧ y ≠ P) (hn : Nd w g0 P κ d (.ref x) q) (hz : Zb d ≤ 16777216)
    (h : ∀ t' s', Pres P [] s s' → Inv g0 P s' → Q (.str (S q.2) t') s') : wpAny (model PG w) A (call (.ref 76) [.ref x]) Q NoE s := by
  refine' enter (binds := [("self", .ref x)]) (m := [("self", .ref x)]) (Ds := []) G I r [] (by simp) (by simp) ?ho ?hcd ?hbind ?hm ?hDs ?body ?hloc ?hcell ?hco ?hgen ?hk
  walk_at "in"
  intro c φ s₁ e1 e2 e3 eD hφ H r; subst e1 e2 e3
  have le : Fz.le κ φ := fun y o' e => (hφ y o').mpr ⟨(hκ y o' e).1, by simp, (hκ y o' e).2⟩
  cases hn with
  | @mk _ C f dx sl ty k T hx hdx cl wr hT kd ws =>
  have hx := le _ _ hx
  have hdx := le _ _ hdx
  repeat' (first
    | ((with_reducible refine r_list0 (by with_reducible assumption) ?_); intro _ _ _ _ _)
    | walk_at "s"
    | (with_reducible refine And.intro (AliveG.of (by with_reducible assumption)) ?_)
    | (with_reducible refine' r_ser (by with_reducible assumption) G hx hdx cl ?_)
    | ((with_reducible show wpAny _ _ (callWith _ _ _ _ _) _ _ _); (refine' r_kcallG (by with_reducible assumption) G cl.kp ?he ?hp ?_); (case he => with_unfolding_all rfl); (case hp => with_unfolding_all rfl))
    | ((with_reducible refine r_boundF (by with_reducible assumption) (by with_reducible assumption) ?_); intro _ _ _ _ _ _)
    | ((with_reducible show wpAny _ _ (call (Value.ref _) _) _ _ _); (refine' s_wr wr (by with_reducible assumption) (le.trans (by with_reducible assumption)) (by with_reducible assumption) r (Ck.new (And.left (by with_reducible assumption))) ?hz ?_); (case hz => lia); intro _ _ _ _)
    | ((with_reducible show wpAny _ _ (call (Value.builtin "str.join") _) _ _ _); (refine r_joinC (by with_reducible assumption) (by with_reducible assumption) ?hz ?_); (case hz => (rw [List.nil_append]; lia)); intro _ _ _))
  rw [List.nil_append]
  exact h _ _ (St.done (by assumption) eD) (St.inv (by assumption))
theorem wr_LiteralZ {w : World} {g0 : Heap} {P : Addr} {κ : Fz} {d : Nat} {x dx : Addr} {v1 v2 : Value} {z : Str} {t : Tok} (G : GW w g0 P) (hx : κ x = some (ins 219 dx #[some (.str z t), some v2, some v1])) (hdx : κ dx = some emptyDict) : Wr w g0 P κ d 215 x (z.cps.toList) := by
  rw [S_list z] at hx
  exact wr_Literal G hx hdx
theorem wr_URLZ {w : World} {g0 : Heap} {P : Addr} {κ : Fz} {d : Nat} {x dx : Addr} {v1 v2 u1 : Value} {z : Str} {t : Tok} (G : GW w g0 P) (hx : κ x = some (ins 368 dx #[some (.str z t), some u1, some v2, some v1])) (hdx : κ dx = some emptyDict) : Wr w g0 P κ d 364 x (z.cps.toList) := by
  rw [S_list z] at hx
  exact wr_URL G hx hdx
theorem idn_len (a : Nat) (l : List Nat) : (idn (a :: l)).length ≤ 4 * (l.length + 1) := by
  by_cases h : a :: l = [45]
  · rw [h]; cases h; decide
  · rw [← spT_all (a :: l) (by simp) h]
    have := spT_len (a :: l) (a :: l).length
    simpa using this
theorem unt_len (a : Nat) (l : List Nat) : (unt (a :: l)).length ≤ 4 * (l.length + 1) + 4 := by
  unfold unt
  split
  · have := encN_len l
    simp only [List.length_append, List.length_cons, List.length_nil, List.drop_succ_cons, List.drop_zero]; lia
  · have := idn_len a l; lia
theorem unt_lenY {y : List Nat} (h : p_units y = true) : (unt y).length ≤ 24 := by
  simp only [p_units, Bool.and_eq_true, decide_eq_true_eq] at h
  cases y with
  | nil => exact absurd rfl h.1.2
  | cons a l => have := unt_len a l; simp only [List.length_cons] at h; lia
theorem wr_DimensionY {w : World} {g0 : Heap} {P : Addr} {κ : Fz} {d : Nat} {x dx : Addr} {v1 v2 : Value} {u1 u2 u3 u4 : Value} {p y : List Nat} {t t1 : Tok} (G : GW w g0 P) (hx : κ x = some (ins 492 dx #[some u1, some u2, some u3, some (.str (S p) t1), some (.str (S y) t), some u4, some v2, some v1])) (hdx : κ dx = some emptyDict) (h : p_units y = true) : Wr w g0 P κ d 488 x (p ++ unt y) := by
  simp only [p_units, Bool.and_eq_true, decide_eq_true_eq] at h
  cases y with
  | nil => exact absurd rfl h.1.2
  | cons a l => exact wr_Dimension G hx hdx (by lia) (fun e => h.2 (by rw [e]; rfl))
theorem r_pickS {w : World} {A : Around} {c : Cx} {φ : Fz} {m : List (Str × Value)} {R : List (Addr × Obj)} {s : Shared} {a : Addr} {o : Obj} {vs : List Value} {n : Nat} {i : Int} {t : Tok} {value slice : Expr} {Q : Value → Shared → Prop} (H : St c φ m ((a, o) :: R) s) (ho : LstO o vs.toArray) (hp : ∀ v ∈ vs, Pr pStr φ v) (hi : i = (n : Int)) (hn : n < vs.length) (hz : n < 1000000)
    (hs : subscripted slice false (.ref a) (.int i t) = operate [.ref a, .int i t] (getItem (.ref a) (.int i t)))
    (h : ∀ x p1 t1 p2 t2 s', p1.length ≤ 8 → p2.length ≤ 8 → s'.heap.IsTuple x #[.str (S p1) t1, .str (S p2) t2] → St c φ m R s' → Q (.ref x) s') : wpAny (model PG w) A (subscriptTail value slice (.ref a) (.int i t)) Q NoE s := by
  obtain ⟨x, ox, u, u', e1, e2, e3, ⟨p1, t1, rfl, h1⟩, p2, t2, rfl, h2⟩ := hp _ (List.getElem_mem hn)
  exact r_ledget H ho hi hz (by rw [List.getElem?_toArray, List.getElem?_eq_getElem hn, e1]) hs fun s' H' => h x p1 t1 p2 t2 s' h1 h2 (H'.fzTup e2 e3) H'
theorem cut_if {w : World} {A : Around} {s : Shared} {st : Stmt} {rest : List Stmt} {env : Env} {Q : Flow → Shared → Prop} (X : Shared → Prop) (h : ∀ QQ : Flow → Shared → Prop, (∀ s', X s' → QQ .next s') → (∀ v s', Q (.ret v) s' → QQ (.ret v) s') → wpAny (model PG w) A (exec st env) QQ NoE s) (k : ∀ s', X s' → wpAny (model PG w) A (execs rest env) Q NoE s') :
    wpAny (model PG w) A (execs (st :: rest) env) Q NoE s :=
  wpAny_execs_cons (h _ k fun _ _ z => z)
theorem c_leaf {g0 : Heap} {P : Addr} {w : World} {A : Around} {s : Shared} {n : Nat} {Q : Value → Shared → Prop} (G : GW w g0 P) (I : Inv g0 P s) (r : Rm A (n + 4)) {kd rr : Nat} {lst : Str} {t1 t2 t3 : Tok}
    (h : ∀ (a : Addr) (s' : Shared) (ψ : Fz) (v : Value) (k : Str) (T : List Nat) (tk tz : Tok), Frs s.heap ψ s'.heap → Nd w g0 P ψ 0 v (k, T) → Last w ψ 0 v false → s'.heap.IsTuple a #[v, .str k tk, .str (S T) tz] → Pres P [] s s' → Inv g0 P s' → Q (.ref a) s') :
    wpAny (model PG w) A (call (.ref 808) [.int kd t1, .int rr t2, .str lst t3]) Q NoE s := by
  refine' enter (n := n + 3) (binds := [("kind", .int kd t1), ("r", .int rr t2), ("last", .str lst t3)]) (m := [("last", .str lst t3), ("r", .int rr t2), ("kind", .int kd t1)]) (Ds := []) G I r [] (by simp) (by simp) ?ho ?hcd ?hbind ?hm ?hDs ?body ?hloc ?hcell ?hco ?hgen ?hk
  walk_at "in"
  intro c φ s₁ e1 e2 e3 eD hφ H r; subst e1 e2 e3
  have snm : ∀ {A' : Around} {φ : Fz} {m' : List (Str × Value)} {R' : List (Addr × Obj)} {s' : Shared} {Q' : Value → Shared → Prop} {k : Nat} {t : Tok}, Rm A' 3 → St c φ m' R' s' → (∀ a l t' s'', l.length ≤ 2 → St c φ m' R' s'' → Q' (.str (S (a :: l)) t') s'') → wpAny (model PG w) A' (call (.ref 763) [.int k t]) Q' NoE s' :=
    fun r' H' h' => c_lawname (n := 2) G H'.inv r' fun a l t' s'' hl pr I' => h' a l t' s'' hl (H'.call0 pr I')
  have snum : ∀ {A' : Around} {φ : Fz} {m' : List (Str × Value)} {R' : List (Addr × Obj)} {s' : Shared} {Q' : Value → Shared → Prop}, Rm A' 3 → St c φ m' R' s' → (∀ (a : Addr) (o : Obj) (vs : List Value) (φ' : Fz) (s'' : Shared), LstO o vs.toArray → (∀ v ∈ vs, Pr pNum φ' v) → vs.length = 6 → Fz.le φ φ' → St c φ' m' ((a, o) :: R') s'' → Q' (.ref a) s'') → wpAny (model PG w) A' (call (.ref 728) []) Q' NoE s' :=
    fun r' H' h' => c_numbers (n := 2) G H'.inv r' fun a o vs ψ s'' pr I' kF ha hψ hg ho hl hv hn => by
      obtain ⟨b1, b2, b3⟩ := H'.adoptL pr I' kF ha hψ hg ho
      exact h' a o vs _ s'' hl (fun v hm => let ⟨x, o, u, u', e1, e2, e3, e4⟩ := hv v hm; ⟨x, o, u, u', e1, b3 _ _ e2, e3, e4⟩) hn b2 b1
  have R3 : Rm _ 3 := r.less (by lia)
  repeat' (first
    | walk_at "s"
    | walk_at "call"
    | ((with_reducible refine' snm R3 (by with_reducible assumption) ?_); intro a0 l0 tn sn hl0 Hn)
    | ((with_reducible refine' snum R3 (by with_reducible assumption) ?_); intro an on vs φ1 s5 hlo hall hl6 hle HH))
  have hr6 : rr % 6 < 6 := Nat.mod_lt _ (by decide)
  have hlt := Nat.lt_of_lt_of_eq hr6 hl6.symm
  obtain ⟨x, ox, u, u', e1, e2, e3, hp, hu⟩ := hall _ (List.getElem_mem hlt)
  obtain ⟨zt, tt, rfl, hzt⟩ := hp
  refine r_ledget (n := rr % 6) (by with_reducible assumption) (by with_reducible assumption) rfl (by lia) (by rw [List.getElem?_toArray, List.getElem?_eq_getElem hlt]) (by with_unfolding_all rfl) ?_
  intro s6 H6
  rw [e1]
  have hT : s6.heap.IsTuple x _ := H6.fzTup e2 e3
  clear HH hall hlo Hn H snum snm
  have fin : ∀ {tup x C f dx : Addr} {ot : Obj} {sl : Array (Option Value)} {ty k z : Str} {T : List Nat} {tk tz : Tok} {φ' : Fz} {m' : List (Str × Value)} {R' : List (Addr × Obj)} {s' : Shared}, St c φ' m' ((tup, ot) :: (x, ins C dx sl) :: (dx, emptyDict) :: R') s' → TupO ot #[.ref x, .str k tk, .str z tz] → Cls (KF w.params) C f ty →
      (∀ κ : Fz, κ x = some (ins C dx sl) → κ dx = some emptyDict → Wr w c.g0 c.P κ 0 f x T) → z = S T → T.length ≤ 64 → ((C = 219 ∧ ty = LIT ∧ ∃ t, (sl[0]?).join = some (.str k t)) ∨ (C ≠ 219 ∧ ty = k ∧ k ≠ LIT)) → (k = WSP → C = 176 ∧ ∃ t, (sl[0]?).join = some (.str (S T) t)) →
      (∀ κ : Fz, κ x = some (ins C dx sl) → κ dx = some emptyDict → Last w κ 0 (.ref x) false) → Q (.ref tup) s' := by
    intro tup x C f dx ot sl ty k z T tk tz φ' m' R' s' H' ht cl wr ez hT kd ws la
    subst ez
    have nd := H'.ord
    have hne : (dx == x) = false := beq_eq_false_iff_ne.mpr fun e => by rw [List.map_cons, List.map_cons, List.map_cons] at nd; simp only [List.nodup_cons, List.mem_cons, not_or] at nd; exact nd.2.1.1 e.symm
    have a1 : (fun b => List.lookup b [(x, ins C dx sl), (dx, emptyDict)]) x = some (ins C dx sl) := by simp
    have a2 : (fun b => List.lookup b [(x, ins C dx sl), (dx, emptyDict)]) dx = some emptyDict := by simp [List.lookup_cons, hne]
    exact h tup s' _ (.ref x) k T tk tz (Frs.led H' eD fun p hp => by
      rcases List.mem_cons.mp hp with rfl | hp
      · exact .tail _ (.head _)
      · rw [List.mem_singleton.mp hp]; exact .tail _ (.tail _ (.head _))) (.mk a1 a2 cl (wr _ a1 a2) (Nat.le_trans hT (Zb_pos 0)) kd ws) (la _ a1 a2) (H'.isTup (.head _) ht) (H'.done eD) H'.inv
  have slit : ∀ {A' : Around} {φ : Fz} {m' : List (Str × Value)} {R' : List (Addr × Obj)} {s' : Shared} {Q' : Value → Shared → Prop}, Rm A' 3 → St c φ m' R' s' → (∀ (a : Addr) (o : Obj) (vs : List Value) (s'' : Shared), LstO o vs.toArray → StrsP p_literals vs → vs.length = 20 → St c φ m' ((a, o) :: R') s'' → Q' (.ref a) s'') → wpAny (model PG w) A' (call (.ref 742) []) Q' NoE s' :=
    fun r' H' h' => c_literals (n := 2) G H'.inv r' fun a o vs s'' pr I' ha hg ho hl hv hn => h' a o vs s'' hl hv hn (H'.adopt (H'.call0 pr I') ha hg ho)
  have suni : ∀ {A' : Around} {φ : Fz} {m' : List (Str × Value)} {R' : List (Addr × Obj)} {s' : Shared} {Q' : Value → Shared → Prop}, Rm A' 3 → St c φ m' R' s' → (∀ (a : Addr) (o : Obj) (vs : List Value) (s'' : Shared), LstO o vs.toArray → StrsP p_units vs → vs.length = 8 → St c φ m' ((a, o) :: R') s'' → Q' (.ref a) s'') → wpAny (model PG w) A' (call (.ref 735) []) Q' NoE s' :=
    fun r' H' h' => c_units (n := 2) G H'.inv r' fun a o vs s'' pr I' ha hg ho hl hv hn => h' a o vs s'' hl hv hn (H'.adopt (H'.call0 pr I') ha hg ho)
  have sstr : ∀ {A' : Around} {φ : Fz} {m' : List (Str × Value)} {R' : List (Addr × Obj)} {s' : Shared} {Q' : Value → Shared → Prop}, Rm A' 3 → St c φ m' R' s' → (∀ (a : Addr) (o : Obj) (vs : List Value) (φ' : Fz) (s'' : Shared), LstO o vs.toArray → (∀ v ∈ vs, Pr pStr φ' v) → vs.length = 4 → Fz.le φ φ' → St c φ' m' ((a, o) :: R') s'' → Q' (.ref a) s'') → wpAny (model PG w) A' (call (.ref 749) []) Q' NoE s' :=
    fun r' H' h' => c_strings (n := 2) G H'.inv r' fun a o vs ψ s'' pr I' kF ha hψ hg ho hl hv hn => by
      obtain ⟨b1, b2, b3⟩ := H'.adoptL pr I' kF ha hψ hg ho
      exact h' a o vs _ s'' hl (fun v hm => let ⟨x, o, u, u', e1, e2, e3, e4⟩ := hv v hm; ⟨x, o, u, u', e1, b3 _ _ e2, e3, e4⟩) hn b2 b1
  have sspell : ∀ {A' : Around} {φ : Fz} {m' : List (Str × Value)} {R' : List (Addr × Obj)} {s' : Shared} {Q' : Value → Shared → Prop} {a : Nat} {l : List Nat} {t : Tok}, l.length ≤ 2 → Rm A' 3 → St c φ m' R' s' → (∀ t' s'', St c φ m' R' s'' → Q' (.str (S (idn (a :: l))) t') s'') → wpAny (model PG w) A' (call (.ref 777) [.str (S (a :: l)) t]) Q' NoE s' :=
    fun hl r' H' h' => c_spell (n := 1) G H'.inv r' (by simp only [List.length_cons]; lia) (List.cons_ne_nil _ _) fun t' s'' pr I' => h' t' s'' (H'.call0 pr I')
  have sunit : ∀ {A' : Around} {φ : Fz} {m' : List (Str × Value)} {R' : List (Addr × Obj)} {s' : Shared} {Q' : Value → Shared → Prop} {y : List Nat} {t : Tok}, p_units y = true → Rm A' 3 → St c φ m' R' s' → (∀ t' s'', St c φ m' R' s'' → Q' (.str (S (unt y)) t') s'') → wpAny (model PG w) A' (call (.ref 782) [.str (S y) t]) Q' NoE s' :=
    fun hl r' H' h' => c_unit (n := 0) G H'.inv r' (by simp only [p_units, Bool.and_eq_true, decide_eq_true_eq] at hl; lia) (by simp only [p_units, Bool.and_eq_true, decide_eq_true_eq] at hl; exact hl.1.2) fun t' s'' pr I' => h' t' s'' (H'.call0 pr I')
  have sbase : ∀ {A' : Around} {φ : Fz} {m' : List (Str × Value)} {R' : List (Addr × Obj)} {s' : Shared} {Q' : Value → Shared → Prop} {k : Nat} {t : Tok}, k < 4294967296 → Rm A' 3 → St c φ m' R' s' → (∀ t' s'', St c φ m' R' s'' → Q' (.str (S (hexN k)) t') s'') → wpAny (model PG w) A' (call (.ref 789) [.int k t]) Q' NoE s' :=
    fun hl r' H' h' => c_base (n := 2) G H'.inv r' hl fun t' s'' pr I' => h' t' s'' (H'.call0 pr I')
  with_reducible refine' r_unpack (by with_reducible assumption) ?hh ?ht ?hn ?hs ?_
  case hh => exact r.hh
  case ht => exact hT
  case hn => rfl
  case hs => rfl
  intro s7 H7
  clear H6 hT
  show wpAny _ _ (assignInOrder [_, _] [_, _]) _ _ _
  refine assignInOrder_cons ?_
  show wpAny _ _ (assign _ _ _) _ _ _
  refine PyProof.Rows.assign_Name ?_
  with_reducible refine r_store H7 ?_
  intro s8 H8
  clear H7
  with_reducible refine assignInOrder_cons ?_
  show wpAny _ _ (assign _ _ _) _ _ _
  refine PyProof.Rows.assign_Name ?_
  with_reducible refine r_store H8 ?_
  intro s9 H9
  clear H8
  with_reducible refine assignInOrder_nil ?_
  have hn := idn_len a0 l0
  have hsl := sizeLine_eq
  obtain ⟨m0, H9, q1, q2, q3, q4, q5, q6⟩ : ∃ m0, St c φ1 m0 [] s9 ∧ Lk m0 (Str.ofString "number") u' ∧ Lk m0 (Str.ofString "text") (.str (S zt) tt) ∧ Lk m0 (Str.ofString "name") (.str (S (a0 :: l0)) tn) ∧ Lk m0 (Str.ofString "last") (.str lst t3) ∧ Lk m0 (Str.ofString "r") (.int (rr : Nat) t2) ∧ Lk m0 (Str.ofString "kind") (.int (kd : Nat) t1) := ⟨_, H9, by walk_at "lk", by walk_at "lk", by walk_at "lk", by walk_at "lk", by walk_at "lk", by walk_at "lk"⟩
  refine cut_if (fun s' => St c φ1 m0 [] s') ?_ ?_; rotate_left; intro s10 H10; clear H9
  refine cut_if (fun s' => St c φ1 m0 [] s') ?_ ?_; rotate_left; intro s11 H11; clear H10
  refine cut_if (fun s' => St c φ1 m0 [] s') ?_ ?_; rotate_left; intro s12 H12; clear H11
  refine cut_if (fun s' => St c φ1 m0 [] s') ?_ ?_; rotate_left; intro s13 H13; clear H12
  refine cut_if (fun s' => St c φ1 m0 [] s') ?_ ?_; rotate_left; intro s14 H14; clear H13
  refine cut_if (fun s' => St c φ1 m0 [] s') ?_ ?_; rotate_left; intro s15 H15; clear H14
  refine cut_if (fun s' => St c φ1 m0 [] s') ?_ ?_; rotate_left; intro s16 H16; clear H15
  refine cut_if (fun s' => St c φ1 m0 [] s') ?_ ?_; rotate_left; intro s17 H17; clear H16
  refine cut_if (fun s' => St c φ1 m0 [] s') ?_ ?_; rotate_left; intro s18 H18; clear H17
  refine cut_if (fun s' => St c φ1 m0 [] s') ?_ ?_; rotate_left; intro s19 H19; clear H18
  refine cut_if (fun s' => St c φ1 m0 [] s') ?_ ?_; rotate_left; intro s20 H20; clear H19
  refine cut_if (fun s' => St c φ1 m0 [] s') ?_ ?_; rotate_left; intro s21 H21; clear H20
  refine cut_if (fun s' => St c φ1 m0 [] s') ?_ ?_; rotate_left; intro s22 H22; clear H21
  refine cut_if (fun s' => St c φ1 m0 [] s') ?_ ?_; rotate_left; intro s23 H23; clear H22
  · -- final
    repeat' (first
      | ((with_reducible show wpAny _ _ (callWith _ (Value.ref 117) _ _ _) _ _ _); (with_reducible refine' r_kcall (by with_reducible assumption) (by with_reducible assumption) ?hk ?he ?hp ?_); (case hk => k_is); (case he => with_unfolding_all rfl); (case hp => with_unfolding_all rfl))
      | walk_at "s"
      | walk_at "call"
      | (refine ite_two ?_ ?_ <;> intro hc)
      | ((with_reducible show wpAny _ _ (call (Value.ref 117) _) _ _ _); (refine' mk_ParseError (n := 0) (by with_reducible assumption) G R3 ?_); intro _ _ _ _ ))
    · exact fin (by with_reducible assumption) (by with_reducible assumption) (cls_ParseError w) (fun κ a b => wr_ErrStr G a b) (by decide +kernel) (by decide) (.inr ⟨by decide, rfl, by decide +kernel⟩) (fun e => absurd e (by decide +kernel)) (fun κ a b => Last.err a b rfl (by decide +kernel))
  · -- ident
    intro QQ hQQ hRR
    repeat' (first
      | ((with_reducible show wpAny _ _ (callWith _ (Value.ref 248) _ _ _) _ _ _); (with_reducible refine' r_kcall (by with_reducible assumption) (by with_reducible assumption) ?hk ?he ?hp ?_); (case hk => k_is); (case he => with_unfolding_all rfl); (case hp => with_unfolding_all rfl))
      | walk_at "s"
      | walk_at "call"
      | (refine ite_two ?_ ?_ <;> intro hc)
      | ((with_reducible refine' sspell (by with_reducible assumption) R3 (by with_reducible assumption) ?_); intro _ _ _)
      | ((with_reducible show wpAny _ _ (call (Value.ref 248) _) _ _ _); (refine' mk_Ident (n := 0) (by with_reducible assumption) G R3 ?hl ?_); (case hl => (simp only [List.length_cons]; lia)); intro _ _ _ _ _ _ )
      | (exact hQQ _ (by with_reducible assumption)))
    · exact hRR _ _ (fin (by with_reducible assumption) (by with_reducible assumption) (cls_Ident w) (fun κ a b => wr_Ident G a b (by simp only [List.length_cons]; lia)) rfl (by lia) (.inr ⟨by decide, rfl, by decide +kernel⟩) (fun e => absurd e (by decide +kernel)) (fun κ a b => Last.oth a b (cls_Ident w) (by decide) (by decide)))
  · -- number
    intro QQ hQQ hRR
    repeat' (first
      | ((with_reducible show wpAny _ _ (callWith _ (Value.ref 428) _ _ _) _ _ _); (with_reducible refine' r_kcall (by with_reducible assumption) (by with_reducible assumption) ?hk ?he ?hp ?_); (case hk => k_is); (case he => with_unfolding_all rfl); (case hp => with_unfolding_all rfl))
      | walk_at "s"
      | walk_at "call"
      | (refine ite_two ?_ ?_ <;> intro hc)
      | ((with_reducible show wpAny _ _ (call (Value.ref 428) _) _ _ _); (refine' mk_Number (n := 0) (by with_reducible assumption) G R3 hu ?_); intro _ _ _ _ _ )
      | (exact hQQ _ (by with_reducible assumption)))
    · exact hRR _ _ (fin (by with_reducible assumption) (by with_reducible assumption) (cls_Number w) (fun κ a b => wr_Number G a b) rfl (by lia) (.inr ⟨by decide, rfl, by decide +kernel⟩) (fun e => absurd e (by decide +kernel)) (fun κ a b => Last.oth a b (cls_Number w) (by decide) (by decide)))
  · -- literal
    intro QQ hQQ hRR
    repeat' (first
      | ((with_reducible show wpAny _ _ (callWith _ (Value.ref 219) _ _ _) _ _ _); (with_reducible refine' r_kcall (by with_reducible assumption) (by with_reducible assumption) ?hk ?he ?hp ?_); (case hk => k_is); (case he => with_unfolding_all rfl); (case hp => with_unfolding_all rfl))
      | ((with_reducible show wpAny _ _ (execs (Stmt.If (Expr.BoolOp BoolOp.Or _ _) _ _ _ :: _) _) _ _ _); (refine cut_nx (fun s' C => ∀ m' z t, St c φ1 m' [] s' → Lk m' (Str.ofString "sign") (.str z t) → z.cps.toList.length ≤ 4 → C) (fun QQ3 hQ3 => ?_) ?_); rotate_left; (intro s11 m' z tz H11 hz11 hl11))
      | walk_at "s"
      | walk_at "call"
      | (refine ite_two ?_ ?_ <;> intro hc)
      | ((with_reducible refine' slit R3 (by with_reducible assumption) ?_); intro _ _ _ _ _ _ _ _)
      | ((with_reducible refine' r_pick (by with_reducible assumption) (by with_reducible assumption) (by with_reducible assumption) ?q1 ?q2 ?q3 ?hs ?_); (case q1 => with_reducible exact rfl); (case q2 => lia); (case q3 => lia); (case hs => with_unfolding_all rfl); intro _ _ _ _ _)
      | ((with_reducible refine' r_in_tuple (by with_reducible assumption) ?ho ?hv ?hs ?_); (case ho => with_reducible assumption); (case hv => trivial); (case hs => simp); intro _)
      | ((with_reducible show wpAny _ _ (call (Value.ref 219) _) _ _ _); (refine' mk_Literal (n := 0) (by with_reducible assumption) G R3 ?_); intro _ _ _ _ )
      | (exact hQ3 _ _ _ _ (by with_reducible assumption) (by walk_at "lk") (by first | decide +kernel | (have hy := ‹p_literals _ = true›; simpa [p_literals, S] using hy)))
      | (exact hQQ _ (by with_reducible assumption)))
    · exact hRR _ _ (fin (by with_reducible assumption) (by with_reducible assumption) (cls_Literal w) (fun κ a b => wr_LiteralZ G a b) (S_list _) (by have := ‹(_ : List Nat).length ≤ 4›; lia) (.inl ⟨rfl, rfl, _, rfl⟩) (fun e => absurd ‹(Str.cps _).toList.length ≤ 4› (by rw [e]; decide +kernel)) (fun κ a b => Last.oth a b (cls_Literal w) (by decide) (by decide)))
  · -- dimension
    intro QQ hQQ hRR
    repeat' (first
      | ((with_reducible show wpAny _ _ (callWith _ (Value.ref 492) _ _ _) _ _ _); (with_reducible refine' r_kcall (by with_reducible assumption) (by with_reducible assumption) ?hk ?he ?hp ?_); (case hk => k_is); (case he => with_unfolding_all rfl); (case hp => with_unfolding_all rfl))
      | ((with_reducible refine r_add_str (by with_reducible assumption) ?hz ?_); (case hz => ((have hy := unt_lenY ‹p_units _ = true›); simp only [S_length]; lia)); intro _ _ _)
      | walk_at "s"
      | walk_at "call"
      | (refine ite_two ?_ ?_ <;> intro hc)
      | ((with_reducible refine' suni R3 (by with_reducible assumption) ?_); intro _ _ _ _ _ _ _ _)
      | ((with_reducible refine' sunit (by with_reducible assumption) R3 (by with_reducible assumption) ?_); intro _ _ _)
      | ((with_reducible refine' r_pick (by with_reducible assumption) (by with_reducible assumption) (by with_reducible assumption) ?q1 ?q2 ?q3 ?hs ?_); (case q1 => with_reducible exact rfl); (case q2 => lia); (case q3 => lia); (case hs => with_unfolding_all rfl); intro _ _ _ _ _)
      | ((with_reducible show wpAny _ _ (call (Value.ref 492) _) _ _ _); (refine' mk_Dimension (n := 0) (by with_reducible assumption) G R3 hu ?hl ?_); (case hl => (have hq := ‹p_units _ = true›; simp only [p_units, Bool.and_eq_true, decide_eq_true_eq] at hq; lia)); intro _ _ _ _ _ _ _ )
      | (exact hQQ _ (by with_reducible assumption)))
    · exact hRR _ _ (fin (by with_reducible assumption) (by with_reducible assumption) (cls_Dimension w) (fun κ a b => wr_DimensionY G a b ‹p_units _ = true›) (by rw [S_append]) (by have hy := unt_lenY ‹p_units _ = true›; simp only [List.length_append]; lia) (.inr ⟨by decide, rfl, by decide +kernel⟩) (fun e => absurd e (by decide +kernel)) (fun κ a b => Last.oth a b (cls_Dimension w) (by decide) (by decide)))
  · -- blank
    intro QQ hQQ hRR
    repeat' (first
      | ((with_reducible show wpAny _ _ (callWith _ (Value.ref 176) _ _ _) _ _ _); (with_reducible refine' r_kcall (by with_reducible assumption) (by with_reducible assumption) ?hk ?he ?hp ?_); (case hk => k_is); (case he => with_unfolding_all rfl); (case hp => with_unfolding_all rfl))
      | walk_at "s"
      | walk_at "call"
      | (refine ite_two ?_ ?_ <;> intro hc)
      | ((with_reducible refine' r_pick (p := fun y => decide (y.length ≤ 4)) (by with_reducible assumption) (by with_reducible assumption) ?hp ?q1 ?q2 ?q3 ?hs ?_); (case hp => repeat' (first | exact StrsP.nil | refine StrsP.cons (by decide +kernel) ?_)); (case q1 => with_reducible exact rfl); (case q2 => (simp only [List.length_cons, List.length_nil]; lia)); (case q3 => lia); (case hs => with_unfolding_all rfl); intro _ _ _ _ _)
      | ((with_reducible show wpAny _ _ (call (Value.ref 176) _) _ _ _); (refine' mk_White (n := 0) (by with_reducible assumption) G R3 ?_); intro _ _ _ _ )
      | (exact hQQ _ (by with_reducible assumption)))
    · (have hy := ‹decide (_ ≤ 4) = true›; exact hRR _ _ (fin (by with_reducible assumption) (by with_reducible assumption) (cls_White w) (fun κ a b => wr_White G a b) rfl (by simp only [decide_eq_true_eq] at hy; lia) (.inr ⟨by decide, rfl, by decide +kernel⟩) (fun _ => ⟨rfl, _, rfl⟩) (fun κ a b => Last.oth a b (cls_White w) (by decide) (by decide))))
  · -- at
    intro QQ hQQ hRR
    repeat' (first
      | ((with_reducible show wpAny _ _ (callWith _ (Value.ref 278) _ _ _) _ _ _); (with_reducible refine' r_kcall (by with_reducible assumption) (by with_reducible assumption) ?hk ?he ?hp ?_); (case hk => k_is); (case he => with_unfolding_all rfl); (case hp => with_unfolding_all rfl))
      | ((with_reducible refine r_add_str (by with_reducible assumption) ?hz ?_); (case hz => (walk_at "lgz")); intro _ _ _)
      | walk_at "s"
      | walk_at "call"
      | (refine ite_two ?_ ?_ <;> intro hc)
      | ((with_reducible refine' sspell (by with_reducible assumption) R3 (by with_reducible assumption) ?_); intro _ _ _)
      | ((with_reducible show wpAny _ _ (call (Value.ref 278) _) _ _ _); (refine' mk_AtKeyword (n := 0) (by with_reducible assumption) G R3 ?hl ?_); (case hl => (simp only [List.length_cons]; lia)); intro _ _ _ _ _ _ )
      | (exact hQQ _ (by with_reducible assumption)))
    · exact hRR _ _ (fin (by with_reducible assumption) (by with_reducible assumption) (cls_AtKeyword w) (fun κ a b => wr_AtKeyword G a b (by simp only [List.length_cons]; lia)) (by walk_at "lg"; rfl) (by simp only [List.length_cons]; lia) (.inr ⟨by decide, rfl, by decide +kernel⟩) (fun e => absurd e (by decide +kernel)) (fun κ a b => Last.oth a b (cls_AtKeyword w) (by decide) (by decide)))
  · -- hash0
    intro QQ hQQ hRR
    have hz2 : (a0 :: l0).length ≤ 4096 := by simp only [List.length_cons]; lia
    have hfl : (List.map enc (a0 :: l0)).flatten.length ≤ 9 := by rw [flat_enc]; have := encN_len (a0 :: l0); simp only [List.length_cons] at this; lia
    repeat' (first
      | ((with_reducible show wpAny _ _ (callWith _ (Value.ref 308) _ _ _) _ _ _); (with_reducible refine' r_kcall (by with_reducible assumption) (by with_reducible assumption) ?hk ?he ?hp ?_); (case hk => k_is); (case he => with_unfolding_all rfl); (case hp => with_unfolding_all rfl))
      | ((with_reducible refine r_add_str (by with_reducible assumption) ?hz ?_); (case hz => (walk_at "lgz")); intro _ _ _)
      | walk_at "s"
      | walk_at "call"
      | (refine ite_two ?_ ?_ <;> intro hc)
      | ((with_reducible show wpAny _ _ (call (Value.ref 308) _) _ _ _); (refine' mk_Hash (n := 0) (by with_reducible assumption) G R3 ?_); intro _ _ _ _ )
      | (exact hQQ _ (by with_reducible assumption)))
    refine comp_signs G (n := 2) R3 (by with_reducible assumption) hz2 (by kernel_rfl!) rfl (by kernel_rfl!) ?hE ?hK
    case hE =>
      intro c' φ' m' R' s' k u Q' G' H' h'
      repeat' (first | walk_at "s" | walk_at "call")
      exact h' _ (by assumption)
    case' hK => intro _ _ _ _ _ _ _
    repeat' (first
      | ((with_reducible show wpAny _ _ (callWith _ (Value.ref 308) _ _ _) _ _ _); (with_reducible refine' r_kcall (by with_reducible assumption) (by with_reducible assumption) ?hk ?he ?hp ?_); (case hk => k_is); (case he => with_unfolding_all rfl); (case hp => with_unfolding_all rfl))
      | ((with_reducible refine r_add_str (by with_reducible assumption) ?hz ?_); (case hz => (walk_at "lgz")); intro _ _ _)
      | walk_at "s"
      | walk_at "call"
      | (refine ite_two ?_ ?_ <;> intro hc)
      | ((with_reducible show wpAny _ _ (call (Value.ref 308) _) _ _ _); (refine' mk_Hash (n := 0) (by with_reducible assumption) G R3 ?_); intro _ _ _ _ )
      | (exact hQQ _ (by with_reducible assumption)))
    · exact hRR _ _ (fin (by with_reducible assumption) (by with_reducible assumption) (cls_Hash w) (fun κ a b => wr_Hash0 G a b (by simp only [List.length_cons]; lia)) (by walk_at "lg"; rw [flat_enc]; rfl) (by rw [← flat_enc]; simp only [List.length_cons]; lia) (.inr ⟨by decide, rfl, by decide +kernel⟩) (fun e => absurd e (by decide +kernel)) (fun κ a b => Last.oth a b (cls_Hash w) (by decide) (by decide)))
  · -- hash1
    intro QQ hQQ hRR
    repeat' (first
      | ((with_reducible show wpAny _ _ (callWith _ (Value.ref 308) _ _ _) _ _ _); (with_reducible refine' r_kcall (by with_reducible assumption) (by with_reducible assumption) ?hk ?he ?hp ?_); (case hk => k_is); (case he => with_unfolding_all rfl); (case hp => with_unfolding_all rfl))
      | ((with_reducible refine r_add_str (by with_reducible assumption) ?hz ?_); (case hz => (walk_at "lgz")); intro _ _ _)
      | walk_at "s"
      | walk_at "call"
      | (refine ite_two ?_ ?_ <;> intro hc)
      | ((with_reducible refine' sspell (by with_reducible assumption) R3 (by with_reducible assumption) ?_); intro _ _ _)
      | ((with_reducible show wpAny _ _ (call (Value.ref 308) _) _ _ _); (refine' mk_Hash (n := 0) (by with_reducible assumption) G R3 ?_); intro _ _ _ _ )
      | (exact hQQ _ (by with_reducible assumption)))
    · exact hRR _ _ (fin (by with_reducible assumption) (by with_reducible assumption) (cls_Hash w) (fun κ a b => wr_Hash1 G a b (by simp only [List.length_cons]; lia)) (by walk_at "lg"; rfl) (by simp only [List.length_cons]; lia) (.inr ⟨by decide, rfl, by decide +kernel⟩) (fun e => absurd e (by decide +kernel)) (fun κ a b => Last.oth a b (cls_Hash w) (by decide) (by decide)))
  · -- percent
    intro QQ hQQ hRR
    repeat' (first
      | ((with_reducible show wpAny _ _ (callWith _ (Value.ref 460) _ _ _) _ _ _); (with_reducible refine' r_kcall (by with_reducible assumption) (by with_reducible assumption) ?hk ?he ?hp ?_); (case hk => k_is); (case he => with_unfolding_all rfl); (case hp => with_unfolding_all rfl))
      | ((with_reducible refine r_add_str (by with_reducible assumption) ?hz ?_); (case hz => (walk_at "lgz")); intro _ _ _)
      | walk_at "s"
      | walk_at "call"
      | (refine ite_two ?_ ?_ <;> intro hc)
      | ((with_reducible show wpAny _ _ (call (Value.ref 460) _) _ _ _); (refine' mk_Percentage (n := 0) (by with_reducible assumption) G R3 hu ?_); intro _ _ _ _ _ )
      | (exact hQQ _ (by with_reducible assumption)))
    · exact hRR _ _ (fin (by with_reducible assumption) (by with_reducible assumption) (cls_Percentage w) (fun κ a b => wr_Percentage G a b) (by walk_at "lg") (by simp only [List.length_append, List.length_cons, List.length_nil]; lia) (.inr ⟨by decide, rfl, by decide +kernel⟩) (fun e => absurd e (by decide +kernel)) (fun κ a b => Last.oth a b (cls_Percentage w) (by decide) (by decide)))
  · -- range
    intro QQ hQQ hRR
    have hx1 : ∀ n, n < 1114112 → (hexN n).length ≤ 8 := fun n h => hexN_len (by lia)
    repeat' (first
      | ((with_reducible show wpAny _ _ (callWith _ (Value.ref 398) _ _ _) _ _ _); (with_reducible refine' r_kcall (by with_reducible assumption) (by with_reducible assumption) ?hk ?he ?hp ?_); (case hk => k_is); (case he => with_unfolding_all rfl); (case hp => with_unfolding_all rfl))
      | (with_reducible refine r_eq_nn ?_)
      | ((with_reducible refine r_add_str (by with_reducible assumption) ?hz ?_); (case hz => ((have h1 := hx1 (rr % 1114112) (by lia)); (have h2 := hx1 ((rr % 1114112 + rr / 3) % 1114112) (by lia)); walk_at "lgz")); intro _ _ _)
      | walk_at "s"
      | walk_at "call"
      | (refine ite_two ?_ ?_ <;> intro hc)
      | walk_at "i"
      | ((with_reducible refine' sbase ?hk R3 (by with_reducible assumption) ?_); (case hk => lia); intro _ _ _)
      | ((with_reducible show wpAny _ _ (call (Value.ref 398) _) _ _ _); (refine' mk_Range (n := 0) (by with_reducible assumption) G R3 ?_); intro _ _ _ _ )
      | (exact hQQ _ (by with_reducible assumption)))
    all_goals first
      | (exact absurd rfl (of_decide_eq_false (Bool.not_eq_true _ |>.mp ‹¬ decide (_ = _) = true›)))
      | (have he := of_decide_eq_true ‹decide (_ % 1114112 = _ % 1114112) = true›; exact hRR _ _ (fin (by with_reducible assumption) (by with_reducible assumption) (cls_Range w) (fun κ a b => wr_Range G a b (Nat.lt_of_lt_of_le (Nat.mod_lt _ (by decide)) (by decide)) (Nat.lt_of_lt_of_le (Nat.mod_lt _ (by decide)) (by decide))) (by rw [if_pos he]; walk_at "lg"; simp) (by rw [if_pos he]; have h1 := hx1 (rr % 1114112) (by lia); simp only [List.length_append, List.length_cons, List.length_nil]; lia) (.inr ⟨by decide, rfl, by decide +kernel⟩) (fun e => absurd e (by decide +kernel)) (fun κ a b => Last.oth a b (cls_Range w) (by decide) (by decide))))
      | (have he := of_decide_eq_false (Bool.not_eq_true _ |>.mp ‹¬ decide (_ % 1114112 = _ % 1114112) = true›); exact hRR _ _ (fin (by with_reducible assumption) (by with_reducible assumption) (cls_Range w) (fun κ a b => wr_Range G a b (Nat.lt_of_lt_of_le (Nat.mod_lt _ (by decide)) (by decide)) (Nat.lt_of_lt_of_le (Nat.mod_lt _ (by decide)) (by decide))) (by rw [if_neg he]; walk_at "lg"; simp) (by rw [if_neg he]; have h1 := hx1 (rr % 1114112) (by lia); have h2 := hx1 ((rr % 1114112 + rr / 3) % 1114112) (by lia); simp only [List.length_append, List.length_cons, List.length_nil]; lia) (.inr ⟨by decide, rfl, by decide +kernel⟩) (fun e => absurd e (by decide +kernel)) (fun κ a b => Last.oth a b (cls_Range w) (by decide) (by decide))))

  · -- string
    intro QQ hQQ hRR
    repeat' (first
      | ((with_reducible show wpAny _ _ (callWith _ (Value.ref 338) _ _ _) _ _ _); (with_reducible refine' r_kcall (by with_reducible assumption) (by with_reducible assumption) ?hk ?he ?hp ?_); (case hk => k_is); (case he => with_unfolding_all rfl); (case hp => with_unfolding_all rfl))
      | walk_at "s"
      | walk_at "call"
      | (refine ite_two ?_ ?_ <;> intro hc)
      | ((with_reducible refine' sstr R3 (by with_reducible assumption) ?_); intro _ _ _ _ _ _ _ _ _ _)
      | ((with_reducible refine' r_pickS (by with_reducible assumption) (by with_reducible assumption) (by with_reducible assumption) ?q1 ?q2 ?q3 ?hs ?_); (case q1 => with_reducible exact rfl); (case q2 => lia); (case q3 => lia); (case hs => with_unfolding_all rfl); intro _ _ _ _ _ _ _ _ _ _)
      | ((with_reducible show wpAny _ _ (call (Value.ref 338) _) _ _ _); (refine' mk_String (n := 0) (by with_reducible assumption) G R3 ?_); intro _ _ _ _ )
      | (exact hQQ _ (by with_reducible assumption)))
    · exact hRR _ _ (fin (by with_reducible assumption) (by with_reducible assumption) (cls_String w) (fun κ a b => wr_String G a b) rfl (by lia) (.inr ⟨by decide, rfl, by decide +kernel⟩) (fun e => absurd e (by decide +kernel)) (fun κ a b => Last.oth a b (cls_String w) (by decide) (by decide)))
  · -- url
    intro QQ hQQ hRR
    repeat' (first
      | ((with_reducible show wpAny _ _ (callWith _ (Value.ref 368) _ _ _) _ _ _); (with_reducible refine' r_kcall (by with_reducible assumption) (by with_reducible assumption) ?hk ?he ?hp ?_); (case hk => k_is); (case he => with_unfolding_all rfl); (case hp => with_unfolding_all rfl))
      | ((with_reducible refine r_add_str (by with_reducible assumption) ?hz ?_); (case hz => ((have hy := ‹decide (_ ≤ 4) = true›); (simp only [decide_eq_true_eq] at hy); walk_at "lgz")); intro _ _ _)
      | walk_at "s"
      | walk_at "call"
      | (refine ite_two ?_ ?_ <;> intro hc)
      | ((with_reducible refine' r_pick (p := fun y => decide (y.length ≤ 4)) (by with_reducible assumption) (by with_reducible assumption) ?hp ?q1 ?q2 ?q3 ?hs ?_); (case hp => repeat' (first | exact StrsP.nil | refine StrsP.cons (by decide +kernel) ?_)); (case q1 => with_reducible exact rfl); (case q2 => (simp only [List.length_cons, List.length_nil]; lia)); (case q3 => lia); (case hs => with_unfolding_all rfl); intro _ _ _ _ _)
      | ((with_reducible show wpAny _ _ (call (Value.ref 368) _) _ _ _); (refine' mk_URL (n := 0) (by with_reducible assumption) G R3 ?_); intro _ _ _ _ )
      | (exact hQQ _ (by with_reducible assumption)))
    · (have hy := ‹decide (_ ≤ 4) = true›; simp only [decide_eq_true_eq] at hy; exact hRR _ _ (fin (by with_reducible assumption) (by with_reducible assumption) (cls_URL w) (fun κ a b => wr_URLZ G a b) (S_list _) (by walk_at "lg"; simp only [S, List.length_append, List.length_cons, List.length_nil]; lia) (.inr ⟨by decide, rfl, by decide +kernel⟩) (fun e => absurd e (by decide +kernel)) (fun κ a b => Last.oth a b (cls_URL w) (by decide) (by decide))))
  · -- comment
    intro QQ hQQ hRR
    repeat' (first
      | ((with_reducible show wpAny _ _ (callWith _ (Value.ref 147) _ _ _) _ _ _); (with_reducible refine' r_kcall (by with_reducible assumption) (by with_reducible assumption) ?hk ?he ?hp ?_); (case hk => k_is); (case he => with_unfolding_all rfl); (case hp => with_unfolding_all rfl))
      | ((with_reducible refine r_add_str (by with_reducible assumption) ?hz ?_); (case hz => ((have hy := ‹decide (_ ≤ 4) = true›); (simp only [decide_eq_true_eq] at hy); walk_at "lgz")); intro _ _ _)
      | walk_at "s"
      | walk_at "call"
      | (refine ite_two ?_ ?_ <;> intro hc)
      | ((with_reducible refine' r_pick (p := fun y => decide (y.length ≤ 4)) (by with_reducible assumption) (by with_reducible assumption) ?hp ?q1 ?q2 ?q3 ?hs ?_); (case hp => repeat' (first | exact StrsP.nil | refine StrsP.cons (by decide +kernel) ?_)); (case q1 => with_reducible exact rfl); (case q2 => (simp only [List.length_cons, List.length_nil]; lia)); (case q3 => lia); (case hs => with_unfolding_all rfl); intro _ _ _ _ _)
      | ((with_reducible show wpAny _ _ (call (Value.ref 147) _) _ _ _); (refine' mk_Comment (n := 0) (by with_reducible assumption) G R3 ?_); intro _ _ _ _ )
      | (exact hQQ _ (by with_reducible assumption)))
    · (have hy := ‹decide (_ ≤ 4) = true›; simp only [decide_eq_true_eq] at hy; exact hRR _ _ (fin (by with_reducible assumption) (by with_reducible assumption) (cls_Comment w) (fun κ a b => wr_Comment G a b) (by walk_at "lg") (by simp only [List.length_append, List.length_cons, List.length_nil]; lia) (.inr ⟨by decide, rfl, by decide +kernel⟩) (fun e => absurd e (by decide +kernel)) (fun κ a b => Last.oth a b (cls_Comment w) (by decide) (by decide))))
  · -- fault
    intro QQ hQQ hRR
    repeat' (first
      | ((with_reducible show wpAny _ _ (callWith _ (Value.ref 117) _ _ _) _ _ _); (with_reducible refine' r_kcall (by with_reducible assumption) (by with_reducible assumption) ?hk ?he ?hp ?_); (case hk => k_is); (case he => with_unfolding_all rfl); (case hp => with_unfolding_all rfl))
      | walk_at "s"
      | walk_at "call"
      | (refine ite_two ?_ ?_ <;> intro hc)
      | ((with_reducible show wpAny _ _ (call (Value.ref 117) _) _ _ _); (refine' mk_ParseError (n := 0) (by with_reducible assumption) G R3 ?_); intro _ _ _ _ )
      | (exact hQQ _ (by with_reducible assumption)))
    · exact hRR _ _ (fin (by with_reducible assumption) (by with_reducible assumption) (cls_ParseError w) (fun κ a b => wr_ErrUrl G a b) (by decide +kernel) (by decide) (.inr ⟨by decide, rfl, by decide +kernel⟩) (fun e => absurd e (by decide +kernel)) (fun κ a b => Last.err a b rfl (by decide +kernel)))
theorem Zb_mono {d d' : Nat} (h : d ≤ d') : Zb d ≤ Zb d' := Nat.mul_le_mul_left 64 (Nat.pow_le_pow_right (by decide) h)
theorem Wr.mono {w : World} {g0 : Heap} {P : Addr} {κ : Fz} {d d' : Nat} {f x : Addr} {T : List Nat} (h : Wr w g0 P κ d f x T) (hd : d ≤ d') : Wr w g0 P κ d' f x T :=
  ⟨fun I r hκ hb hda hg hck hz hq => h.go I (r.less (by unfold RN; lia)) hκ hb hda hg hck (by have := Zb_mono hd; lia) fun s' o' p I' ho hk => hq s' o' p I' ho (hk.le (by have := Zb_mono hd; lia))⟩
/-- a closed node -/
def NdL (w : World) (g0 : Heap) (P : Addr) (κ : Fz) (d : Nat) (v : Value) (q : Str × List Nat) : Prop := Nd w g0 P κ d v q ∧ ∃ k, Last w κ k v false
theorem NdL.up {w : World} {g0 : Heap} {P : Addr} {κ κ' : Fz} {d : Nat} {v : Value} {q : Str × List Nat} (h : NdL w g0 P κ d v q) (le : Fz.le κ κ') : NdL w g0 P κ' d v q := ⟨h.1.up le, let ⟨k, a⟩ := h.2; ⟨k, a.up le⟩⟩
theorem Nd.mono {w : World} {g0 : Heap} {P : Addr} {κ : Fz} {d d' : Nat} {v : Value} {q : Str × List Nat} (h : Nd w g0 P κ d v q) (hd : d ≤ d') : Nd w g0 P κ d' v q := by
  cases h with
  | mk hx hdx cl wr hT kd ws => exact .mk hx hdx cl (wr.mono hd) (Nat.le_trans hT (Zb_mono hd)) kd ws
structure SpecNode (w : World) (d : Nat) : Prop where
  go : ∀ {g0 : Heap} {P : Addr} {A : Around} {s : Shared} {tp : Addr} {otp : Obj} {n : Nat} {lst : Str} {t1 t2 t3 : Tok} {Q : Value → Shared → Prop}, GW w g0 P → Inv g0 P s → Rm A (2 * d + 7) → s.heap.get? tp = some otp → Tp otp → g0.objs.size ≤ tp →
    (∀ (tup : Addr) (s' : Shared) (o' : Obj) (ψ : Fz) (v : Value) (k : Str) (T : List Nat) (tk tz : Tok), Frs s.heap ψ s'.heap → NdL w g0 P ψ d v (k, T) → s'.heap.IsTuple tup #[v, .str k tk, .str (S T) tz] → Pres P [tp] s s' → Inv g0 P s' → s'.heap.get? tp = some o' → Tp o' → Q (.ref tup) s') →
    wpAny (model PG w) A (call (.ref 815) [.ref tp, .int (n : Nat) t1, .int (d : Nat) t2, .str lst t3]) Q NoE s
structure RowR (w : World) (g0 : Heap) (P : Addr) (s s' : Shared) (tp : Addr) (d n : Nat) (la lb : Addr) (o' : Obj) (ψ : Fz) (told : List (Str × List Nat)) : Prop where
  frs : Frs s.heap ψ s'.heap
  tape : s'.heap.get? tp = some o'
  tok : Tp o'
  na : s.heap.get? la = none ∧ ψ la = none ∧ g0.objs.size ≤ la
  nb : s.heap.get? lb = none ∧ ψ lb = none ∧ g0.objs.size ≤ lb
  ab : la ≠ lb
  a : ∃ lo its, s'.heap.get? la = some lo ∧ (LstO lo its ∧ lo.dict = none) ∧ All2 (NdL w g0 P ψ d) its.toList told
  b : ∃ lo its, s'.heap.get? lb = some lo ∧ (LstO lo its ∧ lo.dict = none) ∧ All2 (Te ψ) its.toList told
  len : told.length ≤ n
structure SpecRow (w : World) (d : Nat) : Prop where
  go : ∀ {g0 : Heap} {P : Addr} {A : Around} {s : Shared} {tp : Addr} {otp : Obj} {n : Nat} {lst : Str} {t1 t2 t3 : Tok} {Q : Value → Shared → Prop}, GW w g0 P → Inv g0 P s → Rm A (2 * d + 8) → s.heap.get? tp = some otp → Tp otp → g0.objs.size ≤ tp → n ≤ 100 →
    (∀ (tup : Addr) (s' : Shared) (la lb : Addr) (o' : Obj) (ψ : Fz) (told : List (Str × List Nat)), RowR w g0 P s s' tp d (n + 1) la lb o' ψ told → s'.heap.IsTuple tup #[.ref la, .ref lb] → Pres P [tp] s s' → Inv g0 P s' → Q (.ref tup) s') →
    wpAny (model PG w) A (call (.ref 822) [.ref tp, .int (n : Nat) t1, .int (d : Nat) t2, .str lst t3]) Q NoE s
theorem St.joinAny {c : Cx} {φ ψ : Fz} {m : List (Str × Value)} {R R' : List (Addr × Obj)} {s s' : Shared} (H : St c φ m R s) (H' : St c φ m R' s') (k : Frs s.heap ψ s'.heap) (hN : ∀ p ∈ R', ψ p.1 = none) : St c (φ.join ψ) m R' s' ∧ Fz.le φ (φ.join ψ) ∧ Fz.le ψ (φ.join ψ) := by
  have h1 := (H.sub (R' := []) (fun _ h => nomatch h) (by simp)).joinN (N := R') (by rw [List.append_nil]; exact H') k hN
  rw [List.append_nil] at h1
  exact ⟨h1, Fz.le_left _ _, k.le_right fun b o e => H.fz b o e⟩
theorem s_node2 {w : World} {A : Around} {c : Cx} {φ : Fz} {m : List (Str × Value)} {R : List (Addr × Obj)} {s : Shared} {d n : Nat} {tp : Addr} {otp : Obj} {lst : Str} {t1 t2 t3 : Tok} {Q : Value → Shared → Prop} (SN : SpecNode w d) (i : Nat) (H : St c φ m R s) (G : GW w c.g0 c.P) (r : Rm A (2 * d + 7)) (hi : R[i]? = some (tp, otp)) (hT : Tp otp)
    (h : ∀ (tup : Addr) (s' : Shared) (o' : Obj) (φ' ψ : Fz) (v : Value) (k : Str) (T : List Nat) (tk tz : Tok), Fz.le φ φ' → Fz.le ψ φ' → (∀ b o, ψ b = some o → s.heap.get? b = none) → NdL w c.g0 c.P ψ d v (k, T) → s'.heap.IsTuple tup #[v, .str k tk, .str (S T) tz] → Tp o' → St c φ' m (R.set i (tp, o')) s' → Q (.ref tup) s') :
    wpAny (model PG w) A (call (.ref 815) [.ref tp, .int (n : Nat) t1, .int (d : Nat) t2, .str lst t3]) Q NoE s := by
  have L := H.led _ (List.mem_of_getElem? hi)
  refine SN.go G H.inv r L.1 hT L.2.2.2 fun tup s' o' ψ v k T tk tz kF hn ht pr I' ho' hT' => ?_
  have H' := H.call1 i hi pr I' ho'
  obtain ⟨h1, h2, h3⟩ := H.joinAny H' kF (fun p hp => by
    have hm : p.1 ∈ R.map (·.1) := by
      rcases List.mem_or_eq_of_mem_set hp with hp | rfl
      · exact List.mem_map_of_mem hp
      · exact List.mem_map_of_mem (f := (·.1)) (List.mem_of_getElem? hi)
    obtain ⟨q, hq, e⟩ := List.mem_map.mp hm
    cases z : ψ p.1 with
    | none => rfl
    | some o'' =>
      have a := kF.new _ _ z
      have b := (H.led q hq).1
      rw [e, a] at b; cases b)
  exact h tup s' o' _ ψ v k T tk tz h2 h3 kF.new hn ht hT' h1
theorem s_node3 {w : World} {A : Around} {c : Cx} {φ : Fz} {m : List (Str × Value)} {R : List (Addr × Obj)} {s : Shared} {p q r' : Addr × Obj} {d n : Nat} {tp : Addr} {otp : Obj} {lst : Str} {t1 t2 t3 : Tok} {Q : Value → Shared → Prop} (SN : SpecNode w d) (H : St c φ m (p :: q :: r' :: (tp, otp) :: R) s) (G : GW w c.g0 c.P) (r : Rm A (2 * d + 7)) (eD : c.D = [tp]) (hT : Tp otp)
    (h : ∀ (tup : Addr) (s' : Shared) (o' : Obj) (φ' ψ : Fz) (v : Value) (k : Str) (T : List Nat) (tk tz : Tok), Fz.le φ φ' → Fz.le ψ φ' → (∀ b o, ψ b = some o → c.s0.heap.get? b = none) → NdL w c.g0 c.P ψ d v (k, T) → s'.heap.IsTuple tup #[v, .str k tk, .str (S T) tz] → Tp o' → St c φ' m (p :: q :: r' :: (tp, o') :: R) s' → Q (.ref tup) s') :
    wpAny (model PG w) A (call (.ref 815) [.ref tp, .int (n : Nat) t1, .int (d : Nat) t2, .str lst t3]) Q NoE s :=
  s_node2 SN 3 H G r rfl hT fun tup s' o' φ' ψ v k T tk tz h1 h2 h3 h4 h5 h6 h7 => h tup s' o' φ' ψ v k T tk tz h1 h2 (fun b o e => H.wasD (fun b hb => by rw [eD, List.mem_singleton] at hb; exact ⟨otp, hb ▸ .tail _ (.tail _ (.tail _ (.head _)))⟩) (h3 b o e)) h4 h5 h6 h7
theorem Kn.no {c : Cx} {κ φ : Fz} {m : List (Str × Value)} {R : List (Addr × Obj)} {s : Shared} {p : Addr × Obj} (hκ : Kn c κ φ) (H : St c φ m R s) (hp : p ∈ R) : κ p.1 = none := by
  cases q : κ p.1 with
  | none => rfl
  | some o => have := hκ.le _ _ q; rw [(H.led _ hp).2.1] at this; cases this
def RowJ (w : World) (c : Cx) (d : Nat) (t2 : Tok) (tp la lb : Addr) (i : Nat) (φ' : Fz) (m' : List (Str × Value)) (R' : List (Addr × Obj)) : Prop :=
  ∃ κ told oa ob otp' itsA itsB, R' = [(lb, ob), (la, oa), (tp, otp')] ∧ Tp otp' ∧ Kn c κ φ' ∧ (LstO oa itsA ∧ oa.dict = none) ∧ All2 (NdL w c.g0 c.P κ d) itsA.toList told ∧ (LstO ob itsB ∧ ob.dict = none) ∧ All2 (Te κ) itsB.toList told ∧ told.length ≤ i ∧
    Lk m' (Str.ofString "tape") (.ref tp) ∧ Lk m' (Str.ofString "depth") (.int (d : Nat) t2) ∧ Lk m' (Str.ofString "nodes") (.ref la) ∧ Lk m' (Str.ofString "told") (.ref lb) ∧ ∃ l t, Lk m' (Str.ofString "last") (.str l t)
theorem RowJ.add {w : World} {c : Cx} {d : Nat} {t2 : Tok} {tp la lb tup : Addr} {i : Nat} {φ'' κ κ' : Fz} {m'' : List (Str × Value)} {told : List (Str × List Nat)} {oa' ob' o2 ot : Obj} {itsA itsB : Array Value} {v : Value} {k : Str} {T : List Nat} {tk tz : Tok}
    (K : Kn c κ' φ'') (le : Fz.le κ κ') (hA : All2 (NdL w c.g0 c.P κ d) itsA.toList told) (hB : All2 (Te κ) itsB.toList told) (ha : LstO oa' (itsA.push v) ∧ oa'.dict = none) (hb : LstO ob' (itsB.push (.ref tup)) ∧ ob'.dict = none) (hn : NdL w c.g0 c.P κ' d v (k, T)) (ht : κ' tup = some ot)
    (hto : TupO ot #[.str k tk, .str (S T) tz]) (hT : Tp o2) (hlen : told.length ≤ i) (k1 : Lk m'' (Str.ofString "tape") (.ref tp)) (k2 : Lk m'' (Str.ofString "depth") (.int (d : Nat) t2)) (k3 : Lk m'' (Str.ofString "nodes") (.ref la)) (k4 : Lk m'' (Str.ofString "told") (.ref lb)) (k5 : ∃ l t, Lk m'' (Str.ofString "last") (.str l t)) :
    RowJ w c d t2 tp la lb (i + 1) φ'' m'' [(lb, ob'), (la, oa'), (tp, o2)] :=
  ⟨κ', told ++ [(k, T)], oa', ob', o2, _, _, rfl, hT, K, ha, by rw [Array.toList_push]; exact (hA.mono fun _ _ h => h.up le).snoc hn, hb, by rw [Array.toList_push]; exact (hB.mono fun _ _ h => h.up le).snoc ⟨tup, ot, tk, tz, rfl, ht, hto⟩, by simp; lia, k1, k2, k3, k4, k5⟩
theorem c_row {w : World} {d : Nat} (SN : SpecNode w d) : SpecRow w d := by
  refine ⟨fun {g0 P A s tp otp n lst t1 t2 t3 Q} G I r htp hT hg hn h => ?_⟩
  refine' enter (n := 2 * d + 7) (binds := [("tape", .ref tp), ("count", .int (n : Nat) t1), ("depth", .int (d : Nat) t2), ("last", .str lst t3)]) (m := [("last", .str lst t3), ("depth", .int (d : Nat) t2), ("count", .int (n : Nat) t1), ("tape", .ref tp)]) (Ds := [tp]) G I r [(tp, otp)] (by simpa using ⟨htp, hg⟩) (by simp) ?ho ?hcd ?hbind ?hm ?hDs ?body ?hloc ?hcell ?hco ?hgen ?hk
  walk_at "in"
  intro c φ s₁ e1 e2 e3 eD hφ H r; subst e1 e2 e3
  repeat' (first
    | ((with_reducible refine r_list0 (by with_reducible assumption) ?_); intro _ _ _ _ _)
    | walk_at "s"
    | walk_at "call")
  rename_i la oa _ ha _ _ _ lb ob _ hb _ s9 H9
  refine r_for_range (J := RowJ w c d t2 tp la lb) r.hh H9 (by lia)
    ⟨Fz.nil, [], oa, ob, otp, #[], #[], rfl, hT, Kn.nil, ha, .nil, hb, .nil, Nat.le_refl _, by walk_at "lk", by walk_at "lk", by walk_at "lk", by walk_at "lk", _, _, by walk_at "lk"⟩ ?_ ?_
  · rintro i φ' m' R' z tk s2 hi ⟨κ, told, oa, ob, otp', itsA, itsB, rfl, hT', hκ, hA, hnA, hB, hnB, hlen, k1, k2, k3, k4, l, tl, k5⟩ _ H2
    clear H9
    have szA : itsA.size ≤ 1000 := by have := hnA.length; simp at this; lia
    have szB : itsB.size ≤ 1000 := by have := hnB.length; simp at this; lia
    have r1 := r
    have ltp : tp ∈ c.D := by rw [eD]; exact .head _
    repeat' (first
      | ((with_reducible show wpAny _ _ (truthy (Value.ref _)) _ _ _); (refine r_tape_truthy 3 (by with_reducible assumption) rfl (by with_reducible assumption) ?_); intro bt _ hbt _; cases bt)
      | ((with_reducible show wpAny _ _ (call (Value.builtin "list.pop") _) _ _ _); (refine r_pop3 (by with_reducible assumption) (by with_reducible assumption) (hbt rfl) ?_); intro kp _ o1 _ hT1 _)
      | ((with_reducible show wpAny _ _ (call (Value.ref 815) _) _ _ _); (refine s_node3 SN (by with_reducible assumption) G r eD hT1 ?_); intro tup s5 o2 φ2 ψ v kk T tk2 tz2 le2 leψ hnew hnd htup hT2 H5; (have hcl := hbt))
      | ((with_reducible refine' r_unpack (by with_reducible assumption) ?hh ?ht ?hn ?hs ?_); (case hh => exact r.hh); (case ht => with_reducible assumption); (case hn => rfl); (case hs => rfl); intro _ _; (show wpAny _ _ (assignInOrder [_, _, _] [_, _, _]) _ _ _); refine assignInOrder_cons ?_; (show wpAny _ _ (assign _ _ _) _ _ _))
      | ((with_reducible show wpAny _ _ (call (Value.builtin "list.append") _) _ _ _); (refine r_app2 (by with_reducible assumption) (by with_reducible assumption) (by with_reducible assumption) ?_); intro _ _ _ _)
      | walk_at "s"
      | walk_at "call"
      | ((with_reducible show wpAny _ _ (getMethod (Value.ref _) _ _) _ _ _); first
          | (with_reducible refine r_popm 3 (by with_reducible assumption) rfl (by with_reducible assumption) ?_)
          | (with_reducible refine r_appm (i := 2) (by with_reducible assumption) rfl hA ?_)
          | (with_reducible refine r_appm (i := 1) (by with_reducible assumption) rfl hB ?_)))
    · exact ⟨_, _, _, by with_reducible assumption, Fz.le_refl _, κ, told, oa, ob, otp', itsA, itsB, rfl, hT', hκ, hA, hnA, hB, hnB, by lia, by walk_at "lk", by walk_at "lk", by walk_at "lk", by walk_at "lk", _, _, by walk_at "lk"⟩
    · have HX := ‹St c φ2 _ (_ :: z :: _ :: _ :: _ :: []) _›
      obtain ⟨κ2, φ3, K2, H3, lk, lφ, et⟩ := fz1 (hκ.join le2 leψ hnew) HX (HX.notD eD (i := 0) rfl (j := 4) rfl (by decide))
      exact ⟨φ3, _, _, H3, le2.trans lφ, RowJ.add K2 ((Fz.le_left _ _).trans lk) hnA hnB (by assumption) (by assumption) (hnd.up ((le_joinR (hκ.le.trans le2) leψ).trans lk)) et (by assumption) (by assumption) hlen (by walk_at "lk") (by walk_at "lk") (by walk_at "lk") (by walk_at "lk") ⟨_, _, by walk_at "lk"⟩⟩
  · rintro φ' m' R' s2 J2 _ H2
    clear H9
    repeat' (first
      | ((with_reducible show wpAny _ _ (execs (Stmt.If _ _ _ _ :: _) _) _ _ _); (refine cut_next (fun s' => ∃ φ'' m'' R'', St c φ'' m'' R'' s' ∧ RowJ w c d t2 tp la lb (n + 1) φ'' m'' R'') ?_ ?_); rotate_left; (rintro s11 ⟨φ'', m'', R'', H11, κ, told, oa, ob, otp', itsA, itsB, rfl, hT', hκ, hA, hnA, hB, hnB, hlen, k1, k2, k3, k4, l, tl, k5⟩))
      | walk_at "s"
      | walk_at "call")
    · have HX := ‹St c _ _ (_ :: (lb, ob) :: (la, oa) :: (tp, otp') :: []) _›
      have nd := HX.ord
      simp only [List.map_cons, List.nodup_cons, List.mem_cons, not_or] at nd
      exact h _ _ la lb _ κ told ⟨hκ.frs HX, HX.get 3 rfl, hT', ⟨HX.newLD (a := la) (o := oa) (by simp) (HX.notD eD (i := 2) rfl (j := 3) rfl (by decide)), hκ.no (p := (la, oa)) HX (by simp), (HX.led (la, oa) (by simp)).2.2.2⟩,
        ⟨HX.newLD (a := lb) (o := ob) (by simp) (HX.notD eD (i := 1) rfl (j := 3) rfl (by decide)), hκ.no (p := (lb, ob)) HX (by simp), (HX.led (lb, ob) (by simp)).2.2.2⟩, Ne.symm nd.2.1.1, ⟨oa, itsA, HX.get 2 rfl, hA, hnA⟩, ⟨ob, itsB, HX.get 1 rfl, hB, hnB⟩, hlen⟩ (HX.isTup (.head _) (by assumption)) (HX.done eD) HX.inv
    · obtain ⟨κ, told, oa, ob, otp', itsA, itsB, rfl, hT', hκ, hA, hnA, hB, hnB, hlen, k1, k2, k3, k4, l, tl, k5⟩ := J2
      have szA : itsA.size ≤ 1000 := by have := hnA.length; simp at this; lia
      have szB : itsB.size ≤ 1000 := by have := hnB.length; simp at this; lia
      have R3 : Rm _ (0 + 3) := r.less (by lia)
      repeat' (first
        | ((with_reducible show wpAny _ _ (callWith _ (Value.ref 176) _ _ _) _ _ _); (with_reducible refine' r_kcall (by with_reducible assumption) (by with_reducible assumption) ?hk ?he ?hp ?_); (case hk => k_is); (case he => with_unfolding_all rfl); (case hp => with_unfolding_all rfl))
        | ((with_reducible show wpAny _ _ (call (Value.builtin "list.append") _) _ _ _); (refine r_app3 (by with_reducible assumption) (by with_reducible assumption) (by with_reducible assumption) ?_); intro _ _ _ _)
        | walk_at "s"
        | walk_at "call"
        | (refine ite_two ?_ ?_ <;> intro hc)
        | ((with_reducible show wpAny _ _ (call (Value.ref 176) _) _ _ _); (refine' mk_White (n := 0) (by with_reducible assumption) G R3 ?_); intro x dx s7 H7)
        | ((with_reducible show wpAny _ _ (getMethod (Value.ref _) _ _) _ _ _); first
            | (with_reducible refine r_appm (i := 1) (by with_reducible assumption) rfl hA ?_)
            | (with_reducible refine r_appm (i := 2) (by with_reducible assumption) rfl hB ?_)))
      · have HX := ‹St c φ' _ (_ :: _ :: _ :: _ :: _ :: _ :: []) _›
        obtain ⟨κ2, φ3, K2, H3, lk, lφ, et, ex, edx⟩ := fz3 hκ HX (HX.notD eD (i := 0) rfl (j := 5) rfl (by decide)) (HX.notD eD (i := 1) rfl (j := 5) rfl (by decide)) (HX.notD eD (i := 2) rfl (j := 5) rfl (by decide))
        have e10 : Str.ofString "\n" = S [10] := by decide +kernel
        have hto := ‹TupO _ _›
        rw [e10] at ex hto
        exact ⟨rfl, φ3, _, _, H3, RowJ.add (T := [10]) K2 lk hnA hnB (by assumption) (by assumption) ⟨.mk ex edx (cls_White w) (wr_White G ex edx) (Nat.le_trans (by decide) (Zb_pos d)) (.inr ⟨by decide, rfl, by decide +kernel⟩) (fun _ => ⟨rfl, _, rfl⟩), 0, .oth ex edx (cls_White w) (by decide) (by decide)⟩ et hto hT' hlen (by walk_at "lk") (by walk_at "lk") (by walk_at "lk") (by walk_at "lk") ⟨_, _, by walk_at "lk"⟩⟩
      · exact ⟨rfl, φ', _, _, by with_reducible assumption, κ, told, oa, ob, otp', itsA, itsB, rfl, hT', hκ, hA, hnA, hB, hnB, by lia, by walk_at "lk", by walk_at "lk", by walk_at "lk", by walk_at "lk", _, _, by walk_at "lk"⟩
/-- a frozen list of closed nodes -/
structure RwL (w : World) (g0 : Heap) (P : Addr) (κ : Fz) (d : Nat) (la : Addr) (told : List (Str × List Nat)) : Prop where
  at_ : ∃ lo its, κ la = some lo ∧ LstO lo its ∧ All2 (NdL w g0 P κ d) its.toList told
theorem RwL.rw {w : World} {g0 : Heap} {P : Addr} {κ : Fz} {d : Nat} {la : Addr} {told : List (Str × List Nat)} (h : RwL w g0 P κ d la told) : Rw w g0 P κ d la told :=
  let ⟨lo, its, a, b, e⟩ := h.at_; ⟨lo, its, a, b, e.mono fun _ _ x => x.1⟩
theorem RwL.up {w : World} {g0 : Heap} {P : Addr} {κ κ' : Fz} {d : Nat} {la : Addr} {told : List (Str × List Nat)} (h : RwL w g0 P κ d la told) (le : Fz.le κ κ') : RwL w g0 P κ' d la told :=
  let ⟨lo, its, a, b, e⟩ := h.at_; ⟨lo, its, le _ _ a, b, e.mono fun _ _ x => x.up le⟩
theorem All2.last {α β : Type} {q : α → β → Prop} : ∀ {l : List α} {r : List β} {u : α}, All2 q l r → l.getLast? = some u → ∃ p, q u p
  | _, _, _, .nil, e => by cases e
  | [a], _, _, .cons x .nil, e => by simp at e; subst e; exact ⟨_, x⟩
  | a :: b :: l, _, _, .cons x t, e => t.last (by rw [List.getLast?_cons_cons] at e; exact e)
theorem RwL.last {w : World} {g0 : Heap} {P : Addr} {κ : Fz} {d : Nat} {la x dx : Addr} {sl : Array (Option Value)} {told : List (Str × List Nat)} (h : RwL w g0 P κ d la told) (hx : κ x = some (ins 613 dx sl)) (hdx : κ dx = some emptyDict) (ha : (sl[0]?).join = some (.ref la)) (hz : told.length ≤ 100) : ∃ k, Last w κ k (.ref x) false := by
  obtain ⟨lo, its, hl, ho, hA⟩ := h.at_
  have hlen := hA.length
  cases q : its.toList.getLast? with
  | none =>
    have : its = #[] := by rw [List.getLast?_eq_none_iff] at q; exact Array.toList_eq_nil_iff.mp q
    subst this
    exact ⟨0, .emp hx hdx ha hl ho⟩
  | some u =>
    obtain ⟨p, hp⟩ := hA.last q
    obtain ⟨k, hk⟩ := hp.2
    exact ⟨k + 1, .fn hx hdx ha hl ho (by simp at hlen; lia) q hk⟩
/-- a frozen list of told -/
structure Tw (κ : Fz) (lb : Addr) (told : List (Str × List Nat)) : Prop where
  at_ : ∃ lo its, κ lb = some lo ∧ LstO lo its ∧ All2 (Te κ) its.toList told
theorem Tw.up {κ κ' : Fz} {lb : Addr} {told : List (Str × List Nat)} (h : Tw κ lb told) (le : Fz.le κ κ') : Tw κ' lb told :=
  let ⟨lo, its, a, b, e⟩ := h.at_; ⟨lo, its, le _ _ a, b, e.mono fun _ _ x => x.up le⟩
theorem s_row {w : World} {A : Around} {c : Cx} {φ κ : Fz} {m : List (Str × Value)} {R : List (Addr × Obj)} {s : Shared} {d n : Nat} {tp : Addr} {otp : Obj} {lst : Str} {t1 t2 t3 : Tok} {Q : Value → Shared → Prop} (SR : SpecRow w d) (i : Nat) (H : St c φ m R s) (hκ : Kn c κ φ) (G : GW w c.g0 c.P) (r : Rm A (2 * d + 8)) (hi : R[i]? = some (tp, otp)) (hT : Tp otp) (hD : ∀ b ∈ c.D, ∃ o, (b, o) ∈ R) (hn : n ≤ 100)
    (h : ∀ (tup : Addr) (s' : Shared) (la lb : Addr) (oa ob o' : Obj) (itsA itsB : Array Value) (φ' κ' : Fz) (told : List (Str × List Nat)), Fz.le φ φ' → Fz.le κ κ' → Kn c κ' φ' → (LstO oa itsA ∧ oa.dict = none) → All2 (NdL w c.g0 c.P κ' d) itsA.toList told → (LstO ob itsB ∧ ob.dict = none) → All2 (Te κ') itsB.toList told → told.length ≤ n + 1 →
      s'.heap.IsTuple tup #[.ref la, .ref lb] → Tp o' → St c φ' m ((lb, ob) :: (la, oa) :: R.set i (tp, o')) s' → Q (.ref tup) s') :
    wpAny (model PG w) A (call (.ref 822) [.ref tp, .int (n : Nat) t1, .int (d : Nat) t2, .str lst t3]) Q NoE s := by
  have L := H.led _ (List.mem_of_getElem? hi)
  refine SR.go G H.inv r L.1 hT L.2.2.2 hn fun tup s' la lb o' ψ told X ht pr I' => ?_
  obtain ⟨oa, itsA, a1, a2, a3⟩ := X.a
  obtain ⟨ob, itsB, b1, b2, b3⟩ := X.b
  have H1 := H.call1 i hi pr I' X.tape
  have nn : ∀ p ∈ R.set i (tp, o'), ∃ o, s.heap.get? p.1 = some o := fun p hp => by
    obtain ⟨q, hq, e⟩ := mem_map_set hi hp
    exact ⟨_, e ▸ (H.led q hq).1⟩
  have H2 := H.adoptR H1 (fun p hp e => by obtain ⟨o, z⟩ := nn p hp; rw [e, X.na.1] at z; cases z) X.na.1 X.na.2.2 a1
  have H3 := H.adoptR H2 (fun p hp e => by
    rcases List.mem_cons.mp hp with rfl | hp
    · exact X.ab e
    · obtain ⟨o, z⟩ := nn p hp; rw [e, X.nb.1] at z; cases z) X.nb.1 X.nb.2.2 b1
  obtain ⟨h1, h2, h3⟩ := H.joinAny H3 X.frs (fun p hp => by
    rcases List.mem_cons.mp hp with rfl | hp
    · exact X.nb.2.1
    · rcases List.mem_cons.mp hp with rfl | hp
      · exact X.na.2.1
      · obtain ⟨o, z⟩ := nn p hp
        cases q : ψ p.1 with
        | none => rfl
        | some o'' => have a := X.frs.new _ _ q; rw [z] at a; cases a)
  have le := le_joinR (hκ.le.trans h2) h3
  exact h tup s' la lb oa ob o' itsA itsB _ _ told h2 (Fz.le_left _ _) (hκ.join h2 h3 fun b o e => H.wasD hD (X.frs.new b o e)) a2 (a3.mono fun _ _ x => x.up le) b2 (b3.mono fun _ _ x => x.up le) X.len ht X.tok h1
/-- both lists are frozen -/
theorem s_rowF {w : World} {A : Around} {c : Cx} {φ κ : Fz} {m : List (Str × Value)} {s : Shared} {d n : Nat} {tp : Addr} {otp : Obj} {lst : Str} {t1 t2 t3 : Tok} {Q : Value → Shared → Prop} (SR : SpecRow w d) (H : St c φ m [(tp, otp)] s) (hκ : Kn c κ φ) (G : GW w c.g0 c.P) (r : Rm A (2 * d + 8)) (hT : Tp otp) (eD : c.D = [tp]) (hn : n ≤ 100)
    (h : ∀ (tup : Addr) (s' : Shared) (la lb : Addr) (o' : Obj) (φ' κ' : Fz) (told : List (Str × List Nat)), Fz.le φ φ' → Fz.le κ κ' → Kn c κ' φ' → RwL w c.g0 c.P κ' d la told → Tw κ' lb told → told.length ≤ n + 1 →
      s'.heap.IsTuple tup #[.ref la, .ref lb] → Tp o' → St c φ' m [(tp, o')] s' → Q (.ref tup) s') :
    wpAny (model PG w) A (call (.ref 822) [.ref tp, .int (n : Nat) t1, .int (d : Nat) t2, .str lst t3]) Q NoE s := by
  refine s_row SR 0 H hκ G r rfl hT (fun b hb => by rw [eD, List.mem_singleton] at hb; exact ⟨otp, hb ▸ .head _⟩) hn fun tup s' la lb oa ob o' itsA itsB φ' κ' told l1 l2 K1 a2 a3 b2 b3 hl ht hT' H' => ?_
  obtain ⟨κ2, φ2, K2, H2, m1, m2, e1, e2⟩ := fz2 K1 H' (H'.notD eD (i := 0) rfl (j := 2) rfl (by decide)) (H'.notD eD (i := 1) rfl (j := 2) rfl (by decide))
  exact h tup s' la lb o' φ2 κ2 told (l1.trans m2) (l2.trans m1) K2 ⟨oa, itsA, e2, a2.1, a3.mono fun _ _ x => x.up m1⟩ ⟨ob, itsB, e1, b2.1, b3.mono fun _ _ x => x.up m1⟩ hl ht hT' H2
theorem s_joinF {w : World} {A : Around} {c : Cx} {φ κ : Fz} {m : List (Str × Value)} {R : List (Addr × Obj)} {s : Shared} {lb : Addr} {t : List (Str × List Nat)} {n : Nat} {Q : Value → Shared → Prop} (H : St c φ m R s) (G : GW w c.g0 c.P) (r : Rm A (n + 3)) (le : Fz.le κ φ) (hw : Tw κ lb t) (hz : (joinV (Str.ofString "") t).length ≤ 16777216)
    (h : ∀ t' s', St c φ m R s' → Q (.str (S (joinV (Str.ofString "") t)) t') s') : wpAny (model PG w) A (call (.ref 803) [.ref lb]) Q NoE s := by
  obtain ⟨lo, its, e, ho, hA⟩ := hw.at_
  have hk : ∀ b o, κ b = some o → s.heap.get? b = some o ∧ b ≠ c.P := fun b o e => ⟨H.fz _ _ (le _ _ e), fun z => by have := le _ _ e; rw [z, H.Pφ] at this; cases this⟩
  exact c_join G H.inv r hk (hk _ _ e).1 (hk _ _ e).2 ho hA hz fun t' s' pr I' => h t' s' (H.call0 pr I')
/-- a list of the ledger: ahead of a frozen list a tuple of the ledger -/
theorem s_joinL {w : World} {A : Around} {c : Cx} {φ : Fz} {m : List (Str × Value)} {R : List (Addr × Obj)} {s : Shared} {p : Addr × Obj} {its : Array Value} {t : List (Str × List Nat)} {n : Nat} {Q : Value → Shared → Prop} (H : St c φ m (p :: R) s) (G : GW w c.g0 c.P) (r : Rm A (n + 3)) (ho : LstO p.2 its) (hA : All2 (Te (φ.join fun b => List.lookup b (p :: R))) its.toList t) (hz : (joinV (Str.ofString "") t).length ≤ 16777216)
    (h : ∀ t' s', St c φ m (p :: R) s' → Q (.str (S (joinV (Str.ofString "") t)) t') s') : wpAny (model PG w) A (call (.ref 803) [.ref p.1]) Q NoE s := by
  have L := H.led _ (.head _)
  exact c_join G H.inv r H.allK L.1 (fun z => absurd H.Plt (Nat.not_lt.mpr (z ▸ L.2.2.2))) ho hA hz fun t' s' pr I' => h t' s' (H.call0 pr I')
theorem Nd.tlen {w : World} {g0 : Heap} {P : Addr} {κ : Fz} {d : Nat} {v : Value} {q : Str × List Nat} (h : Nd w g0 P κ d v q) : q.2.length ≤ Zb d := by
  cases h with
  | mk _ _ _ _ hT => exact hT
theorem RwL.jlen {w : World} {g0 : Heap} {P : Addr} {κ : Fz} {d k : Nat} {la : Addr} {told : List (Str × List Nat)} (h : RwL w g0 P κ d la told) (hk : told.length ≤ k) (l : Str) : (joinV l told).length ≤ k * (Zb d + 5) := by
  obtain ⟨lo, its, _, _, hA⟩ := h.at_
  refine Nat.le_trans (joinV_len told l fun p hp => ?_) (Nat.mul_le_mul_right _ hk)
  obtain ⟨j, hj, rfl⟩ := List.mem_iff_getElem.mp hp
  exact (hA.get j (by rw [hA.length]; exact hj) hj).1.tlen
theorem ndl_white {w : World} {g0 : Heap} {P : Addr} {κ : Fz} {d : Nat} {x dx : Addr} {v1 v2 : Value} {z : Str} {t : Tok} {T : List Nat} (G : GW w g0 P) (hx : κ x = some (ins 176 dx #[some (.str z t), some v2, some v1])) (hdx : κ dx = some emptyDict) (ez : z = S T) (hT : T.length ≤ 64) : NdL w g0 P κ d (.ref x) (WSP, T) := by
  subst ez
  exact ⟨.mk hx hdx (cls_White w) (wr_White G hx hdx) (Nat.le_trans hT (Zb_pos d)) (.inr ⟨by decide, rfl, by decide +kernel⟩) (fun _ => ⟨rfl, _, rfl⟩), 0, .oth hx hdx (cls_White w) (by decide) (by decide)⟩
/-- the node's names -/
def NJ (c : Cx) (φ : Fz) (tp : Addr) (otp : Obj) (d rr : Nat) (t2 tr : Tok) (lst : Str) (t3 : Tok) (s' : Shared) (C : Prop) : Prop :=
  ∀ (kd : Nat) (t : Tok) (m' : List (Str × Value)), St c φ m' [(tp, otp)] s' → kd ≤ 16 → (d = 0 → kd < 12 ∨ kd = 16) → Lk m' (Str.ofString "kind") (.int (kd : Nat) t) → Lk m' (Str.ofString "r") (.int (rr : Nat) tr) → Lk m' (Str.ofString "tape") (.ref tp) → Lk m' (Str.ofString "depth") (.int (d : Nat) t2) → Lk m' (Str.ofString "last") (.str lst t3) → C
theorem c_node {w : World} {d : Nat} (hd2 : d ≤ 2) (SR : ∀ e, d = e + 1 → SpecRow w e) : SpecNode w d := by
  refine ⟨fun {g0 P A s tp otp n lst t1 t2 t3 Q} G I r htp hT hg h => ?_⟩
  refine' enter (n := 2 * d + 6) (binds := [("tape", .ref tp), ("n", .int (n : Nat) t1), ("depth", .int (d : Nat) t2), ("last", .str lst t3)]) (m := [("last", .str lst t3), ("depth", .int (d : Nat) t2), ("n", .int (n : Nat) t1), ("tape", .ref tp)]) (Ds := [tp]) G I r [(tp, otp)] (by simpa using ⟨htp, hg⟩) (by simp) ?ho ?hcd ?hbind ?hm ?hDs ?body ?hloc ?hcell ?hco ?hgen ?hk
  walk_at "in"
  intro c φ s₁ e1 e2 e3 eD hφ H r; subst e1 e2 e3
  have R3 : Rm _ (0 + 3) := r.less (by lia)
  have scalm : ∀ {A' : Around} {φ : Fz} {m' : List (Str × Value)} {R' : List (Addr × Obj)} {s' : Shared} {Q' : Value → Shared → Prop}, Rm A' 3 → St c φ m' R' s' → (∀ (a : Addr) (o : Obj) (vs : List Value) (s'' : Shared), LstO o vs.toArray → StrsP p_calm vs → St c φ m' ((a, o) :: R') s'' → Q' (.ref a) s'') → wpAny (model PG w) A' (call (.ref 756) []) Q' NoE s' :=
    fun r' H' h' => c_calm (n := 2) G H'.inv r' fun a o vs s'' pr I' ha hg ho hl hv _ => h' a o vs s'' hl hv (H'.adopt (H'.call0 pr I') ha hg ho)
  have fin0 : ∀ {kd : Nat} {t : Tok} {m' : List (Str × Value)} {rr : Nat} {tr : Tok} {s' : Shared}, St c φ m' [(tp, otp)] s' → kd ≤ 16 → (d = 0 → kd < 12 ∨ kd = 16) → Lk m' (Str.ofString "kind") (.int (kd : Nat) t) → Lk m' (Str.ofString "r") (.int (rr : Nat) tr) → Lk m' (Str.ofString "tape") (.ref tp) → Lk m' (Str.ofString "depth") (.int (d : Nat) t2) → Lk m' (Str.ofString "last") (.str lst t3) → ∀ C : Prop, NJ c φ tp otp d rr t2 tr lst t3 s' C → C :=
    fun a b e f g h i j _ yy => yy _ _ _ a b e f g h i j
  refine cut_nx (fun s' C => ∀ (kd : Nat) (t tr : Tok) (m' : List (Str × Value)), St c φ m' [(tp, otp)] s' → kd ≤ 16 → Lk m' (Str.ofString "kind") (.int (kd : Nat) t) → Lk m' (Str.ofString "r") (.int (n / 17 : Nat) tr) → Lk m' (Str.ofString "tape") (.ref tp) → Lk m' (Str.ofString "depth") (.int (d : Nat) t2) → Lk m' (Str.ofString "last") (.str lst t3) → C) ?_ ?_
  · intro QQ hQQ
    with_reducible refine' PyProof.Rows.Assign_Tuple_swapped (names := [Str.ofString "kind", Str.ofString "r"]) ?_ ?hs ?hw
    case hs => with_unfolding_all rfl
    case hw => with_unfolding_all rfl
    repeat' (first | walk_at "s" | walk_at "call")
    refine r_unpackI (by with_reducible assumption) r.hh (St.isTup (by with_reducible assumption) (.head _) (by with_reducible assumption)) rfl ?_
    intro s2 H2
    show wpAny _ _ (assignInOrder [bindName _ _, bindName _ _] [_, _]) _ _ _
    refine assignInOrder_cons (PyProof.Rows.bindName_ ?_)
    with_reducible refine r_store H2 ?_
    intro s3 H3
    refine assignInOrder_cons (PyProof.Rows.bindName_ ?_)
    with_reducible refine r_store H3 ?_
    intro s4 H4
    exact assignInOrder_nil (hQQ _ (n % 17) _ _ _ (H4.tail 1) (by lia) (by walk_at "lk") (by walk_at "lk") (by walk_at "lk") (by walk_at "lk") (by walk_at "lk"))
  intro s2 kd t tr m' H2 h16 k1 k2 k3 k4 k5
  clear H
  refine cut_nx (NJ c φ tp otp d (n / 17) t2 tr lst t3) ?_ ?_
  · intro QQ hQQ
    repeat' (first
      | ((with_reducible refine' r_isub_nat (b := 12) ?a ?b (by with_reducible assumption) ?_); (case a => exact rfl); (case b => (have hy := of_decide_eq_true ‹decide ((12 : Int) ≤ _) = true›; lia)); intro _ _ _)
      | walk_at "s" | walk_at "call" | (refine ite_two ?_ ?_ <;> intro hc))
    · have hy := of_decide_eq_true ‹decide ((12 : Int) ≤ _) = true›
      have hy2 := of_decide_eq_true ‹decide (_ ≤ (15 : Int)) = true›
      exact fin0 (kd := kd - 12) (by with_reducible assumption) (by lia) (by lia) (by walk_at "lk") (by walk_at "lk") (by walk_at "lk") (by walk_at "lk") (by walk_at "lk") _ (hQQ _)
    · have hy2 := of_decide_eq_false (Bool.not_eq_true _ |>.mp ‹¬ decide (_ ≤ (15 : Int)) = true›)
      exact fin0 (kd := kd) (by with_reducible assumption) (by lia) (by lia) (by walk_at "lk") (by walk_at "lk") (by walk_at "lk") (by walk_at "lk") (by walk_at "lk") _ (hQQ _)
    · have hy2 := of_decide_eq_false (Bool.not_eq_true _ |>.mp ‹¬ decide ((12 : Int) ≤ _) = true›)
      exact fin0 (kd := kd) (by with_reducible assumption) (by lia) (by lia) (by walk_at "lk") (by walk_at "lk") (by walk_at "lk") (by walk_at "lk") (by walk_at "lk") _ (hQQ _)
    · have hy2 := of_decide_eq_false (Bool.not_eq_true _ |>.mp ‹¬ decide (d = 0) = true›)
      exact fin0 (kd := kd) (by with_reducible assumption) (by lia) (fun e => absurd e hy2) (by walk_at "lk") (by walk_at "lk") (by walk_at "lk") (by walk_at "lk") (by walk_at "lk") _ (hQQ _)
  intro s3 kd1 t1' m1 H3 h16 h12 k1 k2 k3 k4 k5
  clear H2
  refine cut_nx (NJ c φ tp otp d (n / 17) t2 tr lst t3) ?_ ?_
  · intro QQ hQQ
    repeat' (first
      | ((with_reducible refine' r_isub_nat (b := 11) ?a ?b (by with_reducible assumption) ?_); (case a => exact rfl); (case b => (have hy := of_decide_eq_true ‹decide ((13 : Int) < _) = true›; lia)); intro _ _ _)
      | ((with_reducible refine' scalm R3 (by with_reducible assumption) ?_); intro _ _ _ _ _ _ _)
      | ((with_reducible refine' r_notin (by with_reducible assumption) (by with_reducible assumption) (by with_reducible assumption) ?_); intro _ _)
      | walk_at "s" | walk_at "call" | (refine ite_two ?_ ?_ <;> intro hc))
    · have hy := of_decide_eq_true ‹decide ((13 : Int) < _) = true›
      exact fin0 (kd := kd1 - 11) (by with_reducible assumption) (by lia) (by lia) (by walk_at "lk") (by walk_at "lk") (by walk_at "lk") (by walk_at "lk") (by walk_at "lk") _ (hQQ _)
    · exact fin0 (kd := kd1) (by with_reducible assumption) h16 h12 (by walk_at "lk") (by walk_at "lk") (by walk_at "lk") (by walk_at "lk") (by walk_at "lk") _ (hQQ _)
    · exact fin0 (kd := kd1) (by with_reducible assumption) h16 h12 (by walk_at "lk") (by walk_at "lk") (by walk_at "lk") (by walk_at "lk") (by walk_at "lk") _ (hQQ _)
  intro s4 kd2 t2' m2 H4 h16 h12 k1 k2 k3 k4 k5
  clear H3
  refine cut_nx (NJ c φ tp otp d (n / 17) t2 tr lst t3) ?_ ?_
  · intro QQ hQQ
    repeat' (first | walk_at "s" | walk_at "call" | (refine ite_two ?_ ?_ <;> intro hc))
    · exact fin0 (kd := 0) (by with_reducible assumption) (by lia) (by lia) (by exact Lk.here) (by walk_at "lk") (by walk_at "lk") (by walk_at "lk") (by walk_at "lk") _ (hQQ _)
    · exact fin0 (kd := kd2) (by with_reducible assumption) h16 h12 (by walk_at "lk") (by walk_at "lk") (by walk_at "lk") (by walk_at "lk") (by walk_at "lk") _ (hQQ _)
    · exact fin0 (kd := kd2) (by with_reducible assumption) h16 h12 (by walk_at "lk") (by walk_at "lk") (by walk_at "lk") (by walk_at "lk") (by walk_at "lk") _ (hQQ _)
  intro s5 kd t m' H5 h16 h12 k1 k2 k3 k4 k5
  clear H4 fin0 scalm
  have leaf : ∀ {A' : Around} {m'' : List (Str × Value)} {s' : Shared} {t5 t6 : Tok}, Rm A' (2 * d + 6) → St c φ m'' [(tp, otp)] s' → wpAny (model PG w) A' (call (.ref 808) [.int (kd : Nat) t5, .int (n / 17 : Nat) t6, .str lst t3]) Q NoE s' := by
    intro A' m'' s' t5 t6 r' H'
    refine c_leaf (n := 2) G H'.inv (r'.less (by lia)) fun a s'' ψ v k T tk tz kF hnd hla ht pr I' => ?_
    have H2 := H'.call0 pr I'
    exact h a s'' otp ψ v k T tk tz ⟨kF.at_, fun b o e => H'.wasD (fun b hb => by rw [eD, List.mem_singleton] at hb; exact ⟨otp, hb ▸ .head _⟩) (kF.new b o e)⟩ ⟨hnd.mono (Nat.zero_le _), 0, hla⟩ ht (H2.done eD) I' (H2.get 0 rfl) hT
  refine cut_if (fun s' => 12 ≤ kd ∧ kd ≤ 15 ∧ St c φ m' [(tp, otp)] s') ?_ ?_
  · intro QQ hQQ hRR
    repeat' (first
      | ((with_reducible show wpAny _ _ (call (Value.ref 808) _) _ _ _); (exact wpAny_mono (leaf r (by with_reducible assumption)) (fun _ _ z => hRR _ _ z) fun _ _ z => z))
      | walk_at "s" | walk_at "call" | (refine ite_two ?_ ?_ <;> intro hc))
    have hy := of_decide_eq_false (Bool.not_eq_true _ |>.mp ‹¬ decide (_ < (12 : Int)) = true›)
    have hy2 := of_decide_eq_false (Bool.not_eq_true _ |>.mp ‹¬ decide (kd = 16) = true›)
    exact hQQ _ ⟨by lia, by lia, by with_reducible assumption⟩
  clear leaf H5
  rintro s6 ⟨h12, h15, H6⟩
  obtain ⟨e, rfl⟩ : ∃ e, d = e + 1 := ⟨d - 1, by lia⟩
  have SR := SR e rfl
  have snm : ∀ {A' : Around} {φ : Fz} {m' : List (Str × Value)} {R' : List (Addr × Obj)} {s' : Shared} {Q' : Value → Shared → Prop} {k : Nat} {t : Tok}, Rm A' 3 → St c φ m' R' s' → (∀ a l t' s'', l.length ≤ 2 → St c φ m' R' s'' → Q' (.str (S (a :: l)) t') s'') → wpAny (model PG w) A' (call (.ref 763) [.int k t]) Q' NoE s' :=
    fun r' H' h' => c_lawname (n := 2) G H'.inv r' fun a l t' s'' hl pr I' => h' a l t' s'' hl (H'.call0 pr I')
  have ssp : ∀ {A' : Around} {φ : Fz} {m' : List (Str × Value)} {R' : List (Addr × Obj)} {s' : Shared} {Q' : Value → Shared → Prop} {a : Nat} {l : List Nat} {t : Tok}, l.length ≤ 2 → Rm A' 3 → St c φ m' R' s' → (∀ t' s'', St c φ m' R' s'' → Q' (.str (S (idn (a :: l))) t') s'') → wpAny (model PG w) A' (call (.ref 777) [.str (S (a :: l)) t]) Q' NoE s' :=
    fun hl r' H' h' => c_spell (n := 1) G H'.inv r' (by simp only [List.length_cons]; lia) (by simp) fun t' s'' pr I' => h' t' s'' (H'.call0 pr I')
  refine cut_nx (fun s' C => ∀ (a0 : Nat) (l0 : List Nat) (tn : Tok) (m' : List (Str × Value)), l0.length ≤ 2 → St c φ m' [(tp, otp)] s' → Lk m' (Str.ofString "kind") (.int (kd : Nat) t) → Lk m' (Str.ofString "r") (.int (n / 17 : Nat) tr) → Lk m' (Str.ofString "tape") (.ref tp) → Lk m' (Str.ofString "depth") (.int (e + 1 : Nat) t2) → Lk m' (Str.ofString "name") (.str (S (a0 :: l0)) tn) → C) ?_ ?_
  · intro QQ hQQ
    repeat' (first
      | ((with_reducible refine' snm R3 (by with_reducible assumption) ?_); intro _ _ _ _ _ _)
      | walk_at "s" | walk_at "call" | (refine ite_two ?_ ?_ <;> intro hc))
    exact hQQ _ _ _ _ _ (by assumption) (by with_reducible assumption) (by walk_at "lk") (by walk_at "lk") (by walk_at "lk") (by walk_at "lk") (by walk_at "lk")
  clear k1 k2 k3 k4 k5 H6 snm
  intro s7 a0 l0 tn m0 hl0 H7 k1 k2 k3 k4 k5
  have hn := idn_len a0 l0
  have hsl := sizeLine_eq
  have hz0 := Zb_pos e
  have hz1 := Zb_succ e
  have fin : ∀ (j : Nat) {tup x C f dx : Addr} {ot o' : Obj} {sl : Array (Option Value)} {k z : Str} {T : List Nat} {tk tz : Tok} {κ φ' : Fz} {m' : List (Str × Value)} {R' : List (Addr × Obj)} {s' : Shared}, Kn c κ φ' → St c φ' m' ((tup, ot) :: (x, ins C dx sl) :: (dx, emptyDict) :: R') s' → R'[j]? = some (tp, o') → Tp o' → TupO ot #[.ref x, .str k tk, .str z tz] → Cls (KF w.params) C f k →
      (∀ κ' : Fz, Fz.le κ κ' → κ' x = some (ins C dx sl) → κ' dx = some emptyDict → Wr w c.g0 c.P κ' (e + 1) f x T) → z = S T → T.length ≤ Zb (e + 1) → C ≠ 219 ∧ k ≠ LIT ∧ k ≠ WSP →
      (∀ κ' : Fz, Fz.le κ κ' → κ' x = some (ins C dx sl) → κ' dx = some emptyDict → ∃ j, Last w κ' j (.ref x) false) → Q (.ref tup) s' := by
    intro j tup x C f dx ot o' sl k z T tk tz κ φ' m' R' s' hκ H' hj hT' ht cl wr ez hz kd la
    subst ez
    obtain ⟨κ3, φ3, K3, H3, lk, lφ, et, ex, edx⟩ := fz3 hκ H' (H'.notD eD (i := 0) rfl (j := j + 3) hj (by lia)) (H'.notD eD (i := 1) rfl (j := j + 3) hj (by lia)) (H'.notD eD (i := 2) rfl (j := j + 3) hj (by lia))
    exact h tup s' o' κ3 (.ref x) k T tk tz (K3.frs H3) ⟨.mk ex edx cl (wr _ lk ex edx) hz (.inr ⟨kd.1, rfl, kd.2.1⟩) (fun e => absurd e kd.2.2), la _ lk ex edx⟩ (H'.isTup (.head _) ht) (H'.done eD) H'.inv (H'.get (j + 3) hj) hT'
  have hz2 : Zb e ≤ 1280 := Nat.le_trans (Zb_mono (d := e) (d' := 1) (by lia)) (by decide)
  refine cut_if (fun s' => St c φ m0 [(tp, otp)] s') ?_ ?_
  · intro QQ hQQ hRR
    repeat' (first
      | ((fail_if_success (with_reducible show wpAny _ _ (execs (Stmt.Assign [Expr.Tuple _ _ _] _ _ :: _) _) _ _ _)); walk_at "s")
      | walk_at "call" | (refine ite_two ?_ ?_ <;> intro hc))
    rotate_left
    · exact hQQ _ (by with_reducible assumption)
    · exact hQQ _ (by with_reducible assumption)
    refine cut_nx (fun s' C => ∀ κ φ' la lb told o' m', Kn c κ φ' → RwL w c.g0 c.P κ e la told → Tw κ lb told → told.length ≤ 3 → Tp o' → St c φ' m' [(tp, o')] s' → Lk m' (Str.ofString "r") (.int (n / 17 : Nat) tr) → Lk m' (Str.ofString "tape") (.ref tp) → Lk m' (Str.ofString "depth") (.int (e + 1 : Nat) t2) → Lk m' (Str.ofString "name") (.str (S (a0 :: l0)) tn) → Lk m' (Str.ofString "before") (.ref la) → Lk m' (Str.ofString "start") (.ref lb) → C) ?_ ?_
    · intro QQ hQQ
      repeat' (first
      | ((with_reducible show wpAny _ _ (call (Value.ref 822) _) _ _ _); (refine s_rowF SR (by with_reducible assumption) Kn.nil G (r.less (by lia)) hT eD (by lia) ?_); intro tup s8 la lb o8 φ8 κ8 told8 l1 l2 K8 hA8 hB8 hl8 ht8 hT8 H8)
      | walk_at "s" | walk_at "call" | (refine ite_two ?_ ?_ <;> intro hc))

      exact hQQ _ κ8 φ8 la lb told8 o8 _ K8 hA8 hB8 (by lia) hT8 (by with_reducible assumption) (by walk_at "lk") (by walk_at "lk") (by walk_at "lk") (by walk_at "lk") (by walk_at "lk") (by walk_at "lk")
    clear k1 k2 k3 k4 k5 H7
    intro s8 κ1 φ1 la lb told1 o1 m1 K1 hA hB hl1 hT1 H8 k1 k2 k3 k4 k5 k6
    refine cut_nx (fun s' C => ∀ κ φ' nb m', Kn c κ φ' → RwL w c.g0 c.P κ e nb ((WSP, [32]) :: told1) → Tw κ lb told1 → St c φ' m' [(tp, o1)] s' → Lk m' (Str.ofString "r") (.int (n / 17 : Nat) tr) → Lk m' (Str.ofString "tape") (.ref tp) → Lk m' (Str.ofString "depth") (.int (e + 1 : Nat) t2) → Lk m' (Str.ofString "name") (.str (S (a0 :: l0)) tn) → Lk m' (Str.ofString "before") (.ref nb) → Lk m' (Str.ofString "start") (.ref lb) → C) ?_ ?_
    · intro QQ hQQ
      obtain ⟨lo, its, eA, hloA, hAll⟩ := hA.at_
      have hφA := K1.le _ _ eA
      have hlen := hAll.length
      simp only [Array.length_toList] at hlen
      repeat' (first
      | ((with_reducible show wpAny _ _ (callWith _ (Value.ref 176) _ _ _) _ _ _); (with_reducible refine' r_kcall (by with_reducible assumption) (by with_reducible assumption) ?hk ?he ?hp ?_); (case hk => k_is); (case he => with_unfolding_all rfl); (case hp => with_unfolding_all rfl))
      | ((with_reducible show wpAny _ _ (binaryOp Operator.Add (Value.ref _) (Value.ref _)) _ _ _); (refine r_ladd (by with_reducible assumption) (St.isLst (by with_reducible assumption) (.head _) (by with_reducible assumption)) (St.fzLst (by with_reducible assumption) hφA hloA) (by simp; lia) ?_); intro nb onb s9 hnb H9)
      | ((with_reducible show wpAny _ _ (call (Value.ref 176) _) _ _ _); (refine' mk_White (n := 0) (by with_reducible assumption) G R3 ?_); intro x dx s7 H7)
      | walk_at "s" | walk_at "call" | (refine ite_two ?_ ?_ <;> intro hc))

      have HX := ‹St c φ1 _ (_ :: _ :: _ :: _ :: _ :: []) _›
      obtain ⟨κ2, φ2, K2, H2, lk2, lφ2, e2⟩ := fz1 K1 HX (HX.notD eD (i := 0) rfl (j := 4) rfl (by decide))
      obtain ⟨κ3, φ3, K3, H3, lk3, lφ3, e3, ex, edx⟩ := fz3 K2 H2 (H2.notD eD (i := 0) rfl (j := 3) rfl (by decide)) (H2.notD eD (i := 1) rfl (j := 3) rfl (by decide)) (H2.notD eD (i := 2) rfl (j := 3) rfl (by decide))
      have l4 := lk2.trans lk3
      exact hQQ _ κ3 φ3 nb _ K3 ⟨onb, _, lk3 _ _ e2, hnb.1, by rw [Array.toList_append]; exact .cons (ndl_white G ex edx (by decide +kernel) (by decide)) (hAll.mono fun _ _ x => x.up l4)⟩ (hB.up l4) H3 (by walk_at "lk") (by walk_at "lk") (by walk_at "lk") (by walk_at "lk") (by walk_at "lk") (by walk_at "lk")
    clear k1 k2 k3 k4 k5 k6 H8 hA hB K1
    intro s9 κ2 φ2 nb m2 K2 hA hB H9 k1 k2 k3 k4 k5 k6
    have hj := hA.jlen (k := 4) (by simp only [List.length_cons]; lia) (Str.ofString "")
    obtain ⟨J, hJ⟩ : ∃ J, J = joinV (Str.ofString "") ((WSP, [32]) :: told1) := ⟨_, rfl⟩
    rw [← hJ] at hj
    refine cut_nx (fun s' C => ∀ m' tt, St c φ2 m' [(tp, o1)] s' → Lk m' (Str.ofString "r") (.int (n / 17 : Nat) tr) → Lk m' (Str.ofString "tape") (.ref tp) → Lk m' (Str.ofString "depth") (.int (e + 1 : Nat) t2) → Lk m' (Str.ofString "name") (.str (S (a0 :: l0)) tn) → Lk m' (Str.ofString "before") (.ref nb) → Lk m' (Str.ofString "text") (.str (S (64 :: idn (a0 :: l0) ++ J)) tt) → C) ?_ ?_
    · intro QQ hQQ
      obtain ⟨lo, its, eB, hloB, hAll⟩ := hB.at_
      have hφB := K2.le _ _ eB
      have hlen := hAll.length
      simp only [Array.length_toList] at hlen
      repeat' (first
      | ((with_reducible refine' ssp hl0 R3 (by with_reducible assumption) ?_); intro _ _ _)
      | ((with_reducible refine r_add_str (by with_reducible assumption) ?hz ?_); (case hz => (walk_at "lgz")); intro _ _ _)
      | ((with_reducible show wpAny _ _ (binaryOp Operator.Add (Value.ref _) (Value.ref _)) _ _ _); (refine r_ladd (by with_reducible assumption) (St.isLst (by with_reducible assumption) (.head _) (by with_reducible assumption)) (St.fzLst (by with_reducible assumption) hφB hloB) (by simp; lia) ?_); intro nb onb s9 hnb H9)
      | walk_at "s" | walk_at "call" | (refine ite_two ?_ ?_ <;> intro hc))

      refine s_joinL (p := (nb, onb)) (t := (WSP, [32]) :: told1) H9 G R3 hnb.1 ?hA ?hz ?_
      case hA =>
        rw [Array.toList_append]
        exact .cons ⟨_, _, _, _, rfl, H9.allKm 2 rfl, by rw [show S [32] = Str.ofString " " by decide +kernel]; assumption⟩ (hAll.mono fun _ _ x => x.up (K2.le.trans (Fz.le_left _ _)))
      case hz => rw [← hJ]; lia
      rw [← hJ]
      intro tj s10 H10
      repeat' (first
      | ((with_reducible refine r_add_str (by with_reducible assumption) ?hz ?_); (case hz => (walk_at "lgz")); intro _ _ _)
      | walk_at "s" | walk_at "call" | (refine ite_two ?_ ?_ <;> intro hc))

      exact hQQ _ _ _ (St.tail (R := _ :: _ :: _ :: _ :: []) (by with_reducible assumption) 3) (by walk_at "lk") (by walk_at "lk") (by walk_at "lk") (by walk_at "lk") (by walk_at "lk") (by rw [show S (64 :: idn (a0 :: l0) ++ J) = Str.ofString "@" ++ S (idn (a0 :: l0)) ++ S J by (walk_at "lg"; rfl)]; exact Lk.here)
    clear k1 k2 k3 k4 k5 k6 H9 hB
    intro s10 m3 tt H10 k1 k2 k3 k4 k5 k6
    refine cut_if (fun s' => St c φ2 m3 [(tp, o1)] s') ?_ ?_
    · intro QQ2 hQQ2 hRR2
      repeat' (first
      | ((with_reducible show wpAny _ _ (callWith _ (Value.ref 706) _ _ _) _ _ _); (with_reducible refine' r_kcall (by with_reducible assumption) (by with_reducible assumption) ?hk ?he ?hp ?_); (case hk => k_is); (case he => with_unfolding_all rfl); (case hp => with_unfolding_all rfl))
      | ((with_reducible refine r_add_str (by with_reducible assumption) ?hz ?_); (case hz => (walk_at "lgz")); intro _ _ _)
      | ((with_reducible show wpAny _ _ (call (Value.ref 706) _) _ _ _); (refine' mk_At (n := 0) (by with_reducible assumption) G R3 ?_); intro x dx s7 H7)
      | walk_at "s" | walk_at "call" | (refine ite_two ?_ ?_ <;> intro hc))

      · subst hJ; exact hRR2 _ _ (hRR _ _ (fin 0 K2 (by with_reducible assumption) rfl hT1 (by with_reducible assumption) (cls_At w) (fun κ' l a b => wr_At0 G a b (hA.up l).rw (by simp only [List.length_cons]; lia) (by simp only [List.length_cons]; lia)) (by walk_at "lg") (by simp only [List.length_append, List.length_cons, List.length_nil]; lia) ⟨by decide, by decide +kernel, by decide +kernel⟩ (fun κ' l a b => ⟨0, .oth a b (cls_At w) (by decide) (by decide)⟩)))
      · exact hQQ2 _ (by with_reducible assumption)
    clear H10
    intro s11 H11
    refine cut_nx (fun s' C => ∀ κ φ' la lb told o' m', Kn c κ φ' → Fz.le κ2 κ → RwL w c.g0 c.P κ e la told → Tw κ lb told → told.length ≤ 4 → Tp o' → St c φ' m' [(tp, o')] s' → Lk m' (Str.ofString "name") (.str (S (a0 :: l0)) tn) → Lk m' (Str.ofString "before") (.ref nb) → Lk m' (Str.ofString "text") (.str (S (64 :: idn (a0 :: l0) ++ J)) tt) → Lk m' (Str.ofString "inner") (.ref la) → Lk m' (Str.ofString "below") (.ref lb) → C) ?_ ?_
    · intro QQ hQQ
      repeat' (first
      | ((with_reducible show wpAny _ _ (call (Value.ref 822) _) _ _ _); (refine s_rowF SR (by with_reducible assumption) K2 G (r.less (by lia)) hT1 eD (by lia) ?_); intro tup s8 la lb o8 φ8 κ8 told8 l1 l2 K8 hA8 hB8 hl8 ht8 hT8 H8)
      | walk_at "s" | walk_at "call" | (refine ite_two ?_ ?_ <;> intro hc))

      exact hQQ _ κ8 φ8 la lb told8 o8 _ K8 l2 hA8 hB8 (by lia) hT8 (by with_reducible assumption) (by walk_at "lk") (by walk_at "lk") (by walk_at "lk") (by walk_at "lk") (by walk_at "lk")
    clear k1 k2 k3 k4 k5 k6 H11
    intro s12 κ3 φ3 la3 lb3 told3 o3 m4 K3 le3 hA3 hB3 hl3 hT3 H12 k1 k2 k3 k4 k5
    have hj3 := hA3.jlen hl3 (Str.ofString "")
    have hj3' := hj3
    rw [show Str.ofString "" = S [] by decide +kernel] at hj3'
    repeat' (first
      | ((with_reducible show wpAny _ _ (callWith _ (Value.ref 706) _ _ _) _ _ _); (with_reducible refine' r_kcall (by with_reducible assumption) (by with_reducible assumption) ?hk ?he ?hp ?_); (case hk => k_is); (case he => with_unfolding_all rfl); (case hp => with_unfolding_all rfl))
      | ((with_reducible refine r_add_str (by with_reducible assumption) ?hz ?_); (case hz => (walk_at "lgz")); intro _ _ _)
      | ((with_reducible show wpAny _ _ (call (Value.ref 706) _) _ _ _); (refine' mk_At (n := 0) (by with_reducible assumption) G R3 ?_); intro x dx s7 H7)
      | ((with_reducible show wpAny _ _ (call (Value.ref 803) [Value.ref lb3]) _ _ _); (refine s_joinF (by with_reducible assumption) G R3 K3.le hB3 (by lia) ?_); intro _ _ _)
      | walk_at "s" | walk_at "call" | (refine ite_two ?_ ?_ <;> intro hc))

    subst hJ
    exact hRR _ _ (fin 0 K3 (by with_reducible assumption) rfl hT3 (by with_reducible assumption) (cls_At w) (fun κ' l a b => wr_At1 G a b ((hA.up le3).up l).rw (by simp only [List.length_cons]; lia) (hA3.up l).rw hl3 (by simp only [List.length_cons]; lia)) (by walk_at "lg") (by simp only [List.length_append, List.length_cons, List.length_nil]; lia) ⟨by decide, by decide +kernel, by decide +kernel⟩ (fun κ' l a b => ⟨0, .oth a b (cls_At w) (by decide) (by decide)⟩))
  clear H7
  intro s8 H8
  refine cut_nx (fun s' C => ∀ κ φ' la lb told o' m', Kn c κ φ' → RwL w c.g0 c.P κ e la told → Tw κ lb told → told.length ≤ 4 → Tp o' → St c φ' m' [(tp, o')] s' → Lk m' (Str.ofString "kind") (.int (kd : Nat) t) → Lk m' (Str.ofString "r") (.int (n / 17 : Nat) tr) → Lk m' (Str.ofString "tape") (.ref tp) → Lk m' (Str.ofString "depth") (.int (e + 1 : Nat) t2) → Lk m' (Str.ofString "name") (.str (S (a0 :: l0)) tn) → Lk m' (Str.ofString "inner") (.ref la) → Lk m' (Str.ofString "below") (.ref lb) → C) ?_ ?_
  · intro QQ hQQ
    repeat' (first
      | ((with_reducible show wpAny _ _ (call (Value.ref 822) _) _ _ _); (refine s_rowF SR (by with_reducible assumption) Kn.nil G (r.less (by lia)) hT eD (by lia) ?_); intro tup s8 la lb o8 φ8 κ8 told8 l1 l2 K8 hA8 hB8 hl8 ht8 hT8 H8)
      | walk_at "s" | walk_at "call" | (refine ite_two ?_ ?_ <;> intro hc))

    exact hQQ _ κ8 φ8 la lb told8 o8 _ K8 hA8 hB8 (by lia) hT8 (by with_reducible assumption) (by walk_at "lk") (by walk_at "lk") (by walk_at "lk") (by walk_at "lk") (by walk_at "lk") (by walk_at "lk") (by walk_at "lk")
  clear k1 k2 k3 k4 k5 H8
  intro s9 κ1 φ1 la lb told1 o1 m1 K1 hA hB hl1 hT1 H9 k1 k2 k3 k4 k5 k6 k7
  have hj := hA.jlen hl1 (Str.ofString "")
  obtain ⟨J, hJ⟩ : ∃ J, J = joinV (Str.ofString "") told1 := ⟨_, rfl⟩
  refine cut_nx (fun s' C => ∀ m' tt, St c φ1 m' [(tp, o1)] s' → Lk m' (Str.ofString "kind") (.int (kd : Nat) t) → Lk m' (Str.ofString "r") (.int (n / 17 : Nat) tr) → Lk m' (Str.ofString "tape") (.ref tp) → Lk m' (Str.ofString "depth") (.int (e + 1 : Nat) t2) → Lk m' (Str.ofString "name") (.str (S (a0 :: l0)) tn) → Lk m' (Str.ofString "inner") (.ref la) → Lk m' (Str.ofString "text") (.str (S J) tt) → C) ?_ ?_
  · intro QQ hQQ
    rw [hJ] at hQQ
    repeat' (first
      | ((with_reducible show wpAny _ _ (call (Value.ref 803) [Value.ref lb]) _ _ _); (refine s_joinF (by with_reducible assumption) G R3 K1.le hB (by lia) ?_); intro _ _ _)
      | walk_at "s" | walk_at "call" | (refine ite_two ?_ ?_ <;> intro hc))

    exact hQQ _ _ _ (by with_reducible assumption) (by walk_at "lk") (by walk_at "lk") (by walk_at "lk") (by walk_at "lk") (by walk_at "lk") (by walk_at "lk") (by walk_at "lk")
  clear k1 k2 k3 k4 k5 k6 k7 H9 hB
  rw [← hJ] at hj
  intro s10 m2 tt H10 k1 k2 k3 k4 k5 k6 k7
  refine cut_if (fun s' => St c φ1 m2 [(tp, o1)] s') ?_ ?_
  · intro QQ hQQ hRR
    repeat' (first
      | ((with_reducible show wpAny _ _ (callWith _ (Value.ref 526) _ _ _) _ _ _); (with_reducible refine' r_kcall (by with_reducible assumption) (by with_reducible assumption) ?hk ?he ?hp ?_); (case hk => k_is); (case he => with_unfolding_all rfl); (case hp => with_unfolding_all rfl))
      | ((with_reducible refine r_add_str (by with_reducible assumption) ?hz ?_); (case hz => (walk_at "lgz")); intro _ _ _)
      | ((with_reducible show wpAny _ _ (call (Value.ref 526) _) _ _ _); (refine' mk_Paren (n := 0) (by with_reducible assumption) G R3 ?_); intro x dx s7 H7)
      | walk_at "s" | walk_at "call" | (refine ite_two ?_ ?_ <;> intro hc))
    · subst hJ; exact hRR _ _ (fin 0 K1 (by with_reducible assumption) rfl hT1 (by with_reducible assumption) (cls_Paren w) (fun κ' l a b => wr_Paren G a b (hA.up l).rw hl1) (by walk_at "lg") (by simp only [List.length_append, List.length_cons, List.length_nil]; lia) ⟨by decide, by decide +kernel, by decide +kernel⟩ (fun κ' l a b => ⟨0, .oth a b (cls_Paren w) (by decide) (by decide)⟩))
    all_goals exact hQQ _ (by with_reducible assumption)
  clear H10
  intro s11 H11
  refine cut_if (fun s' => St c φ1 m2 [(tp, o1)] s') ?_ ?_
  · intro QQ hQQ hRR
    repeat' (first
      | ((with_reducible show wpAny _ _ (callWith _ (Value.ref 555) _ _ _) _ _ _); (with_reducible refine' r_kcall (by with_reducible assumption) (by with_reducible assumption) ?hk ?he ?hp ?_); (case hk => k_is); (case he => with_unfolding_all rfl); (case hp => with_unfolding_all rfl))
      | ((with_reducible refine r_add_str (by with_reducible assumption) ?hz ?_); (case hz => (walk_at "lgz")); intro _ _ _)
      | ((with_reducible show wpAny _ _ (call (Value.ref 555) _) _ _ _); (refine' mk_Square (n := 0) (by with_reducible assumption) G R3 ?_); intro x dx s7 H7)
      | walk_at "s" | walk_at "call" | (refine ite_two ?_ ?_ <;> intro hc))
    · subst hJ; exact hRR _ _ (fin 0 K1 (by with_reducible assumption) rfl hT1 (by with_reducible assumption) (cls_Square w) (fun κ' l a b => wr_Square G a b (hA.up l).rw hl1) (by walk_at "lg") (by simp only [List.length_append, List.length_cons, List.length_nil]; lia) ⟨by decide, by decide +kernel, by decide +kernel⟩ (fun κ' l a b => ⟨0, .oth a b (cls_Square w) (by decide) (by decide)⟩))
    all_goals exact hQQ _ (by with_reducible assumption)
  clear H11
  intro s12 H12
  refine cut_if (fun s' => St c φ1 m2 [(tp, o1)] s') ?_ ?_
  · intro QQ hQQ hRR
    repeat' (first
      | ((with_reducible show wpAny _ _ (callWith _ (Value.ref 584) _ _ _) _ _ _); (with_reducible refine' r_kcall (by with_reducible assumption) (by with_reducible assumption) ?hk ?he ?hp ?_); (case hk => k_is); (case he => with_unfolding_all rfl); (case hp => with_unfolding_all rfl))
      | ((with_reducible refine r_add_str (by with_reducible assumption) ?hz ?_); (case hz => (walk_at "lgz")); intro _ _ _)
      | ((with_reducible show wpAny _ _ (call (Value.ref 584) _) _ _ _); (refine' mk_Curly (n := 0) (by with_reducible assumption) G R3 ?_); intro x dx s7 H7)
      | walk_at "s" | walk_at "call" | (refine ite_two ?_ ?_ <;> intro hc))
    · subst hJ; exact hRR _ _ (fin 0 K1 (by with_reducible assumption) rfl hT1 (by with_reducible assumption) (cls_Curly w) (fun κ' l a b => wr_Curly G a b (hA.up l).rw hl1) (by walk_at "lg") (by simp only [List.length_append, List.length_cons, List.length_nil]; lia) ⟨by decide, by decide +kernel, by decide +kernel⟩ (fun κ' l a b => ⟨0, .oth a b (cls_Curly w) (by decide) (by decide)⟩))
    all_goals exact hQQ _ (by with_reducible assumption)
  clear H12
  intro s13 H13
  refine cut_if (fun s' => St c φ1 m2 [(tp, o1)] s') ?_ ?_
  · intro QQ hQQ hRR
    repeat' (first
      | ((with_reducible show wpAny _ _ (callWith _ (Value.ref 613) _ _ _) _ _ _); (with_reducible refine' r_kcall (by with_reducible assumption) (by with_reducible assumption) ?hk ?he ?hp ?_); (case hk => k_is); (case he => with_unfolding_all rfl); (case hp => with_unfolding_all rfl))
      | ((with_reducible refine' ssp hl0 R3 (by with_reducible assumption) ?_); intro _ _ _)
      | ((with_reducible refine r_add_str (by with_reducible assumption) ?hz ?_); (case hz => (walk_at "lgz")); intro _ _ _)
      | ((with_reducible show wpAny _ _ (call (Value.ref 613) _) _ _ _); (refine' mk_Function (n := 0) (by with_reducible assumption) G R3 ?hl ?_); (case hl => (simp only [List.length_cons]; lia)); intro x dx y ty s7 H7)
      | walk_at "s" | walk_at "call" | (refine ite_two ?_ ?_ <;> intro hc))
    · subst hJ; exact hRR _ _ (fin 0 (T := idn (a0 :: l0) ++ [40] ++ joinV (Str.ofString "") told1 ++ [41]) K1 (by with_reducible assumption) rfl hT1 (by with_reducible assumption) (cls_Function w) (fun κ' l a b => by obtain ⟨kk, hk⟩ := (hA.up l).last a b rfl (by lia); exact (show Wr _ _ _ _ _ _ _ (idn (a0 :: l0) ++ [40] ++ joinV (Str.ofString "") told1 ++ [41]) from wr_Function G a b (hA.up l).rw (by lia) (by simp only [List.length_cons]; lia) hk)) (by walk_at "lg") (by simp only [List.length_append, List.length_cons, List.length_nil]; lia) ⟨by decide, by decide +kernel, by decide +kernel⟩ (fun κ' l a b => (hA.up l).last a b rfl (by lia)))
    all_goals exact hQQ _ (by with_reducible assumption)
  clear H13
  intro s14 H14
  refine cut_if (fun s' => St c φ1 m2 [(tp, o1)] s') ?_ ?_
  · intro QQ hQQ hRR
    repeat' (first
      | ((with_reducible show wpAny _ _ (callWith _ (Value.ref 644) _ _ _) _ _ _); (with_reducible refine' r_kcall (by with_reducible assumption) (by with_reducible assumption) ?hk ?he ?hp ?_); (case hk => k_is); (case he => with_unfolding_all rfl); (case hp => with_unfolding_all rfl))
      | ((with_reducible refine' ssp hl0 R3 (by with_reducible assumption) ?_); intro _ _ _)
      | ((with_reducible refine r_add_str (by with_reducible assumption) ?hz ?_); (case hz => (walk_at "lgz")); intro _ _ _)
      | ((with_reducible show wpAny _ _ (call (Value.ref 644) _) _ _ _); (refine' mk_Declaration (n := 0) (by with_reducible assumption) G R3 ?_); intro x dx s7 H7)
      | walk_at "i"
      | walk_at "s" | walk_at "call" | (refine ite_two ?_ ?_ <;> intro hc))

    · have hy : n / 17 % 2 = 1 := by have hy := ‹decide (n / 17 % 2 ≠ 0) = true›; simp only [decide_eq_true_eq] at hy; lia
      subst hJ; exact hRR _ _ (fin 0 K1 (by with_reducible assumption) rfl hT1 (by with_reducible assumption) (cls_Declaration w) (fun κ' l a b => wr_Declaration G a b (hA.up l).rw hl1 (by simp only [List.length_cons]; lia)) (by rw [if_pos (decide_eq_true hy)]; walk_at "lg") (by rw [if_pos (decide_eq_true hy)]; simp only [List.length_append, List.length_cons, List.length_nil]; lia) ⟨by decide, by decide +kernel, by decide +kernel⟩ (fun κ' l a b => ⟨0, .oth a b (cls_Declaration w) (by decide) (by decide)⟩))
    · have hy : ¬ n / 17 % 2 = 1 := by have hy := ‹¬ decide (n / 17 % 2 ≠ 0) = true›; simp only [decide_eq_true_eq] at hy; lia
      have hy : ¬ decide (n / 17 % 2 = 1) = true := by simpa using hy
      subst hJ; exact hRR _ _ (fin 0 K1 (by with_reducible assumption) rfl hT1 (by with_reducible assumption) (cls_Declaration w) (fun κ' l a b => wr_Declaration G a b (hA.up l).rw hl1 (by simp only [List.length_cons]; lia)) (by rw [if_neg hy]; (walk_at "lg"); (try simp)) (by rw [if_neg hy]; simp only [List.length_append, List.length_cons, List.length_nil]; lia) ⟨by decide, by decide +kernel, by decide +kernel⟩ (fun κ' l a b => ⟨0, .oth a b (cls_Declaration w) (by decide) (by decide)⟩))
    all_goals exact hQQ _ (by with_reducible assumption)
  clear H14
  intro s15 H15
  refine cut_nx (fun s' C => ∀ κ φ' la' lb' told o' m', Kn c κ φ' → Fz.le κ1 κ → RwL w c.g0 c.P κ e la' told → Tw κ lb' told → told.length ≤ 3 → Tp o' → St c φ' m' [(tp, o')] s' → Lk m' (Str.ofString "inner") (.ref la) → Lk m' (Str.ofString "text") (.str (S J) tt) → Lk m' (Str.ofString "front") (.ref la') → Lk m' (Str.ofString "start") (.ref lb') → C) ?_ ?_
  · intro QQ hQQ
    repeat' (first
      | ((with_reducible show wpAny _ _ (call (Value.ref 822) _) _ _ _); (refine s_rowF SR (by with_reducible assumption) K1 G (r.less (by lia)) hT1 eD (by lia) ?_); intro tup s8 la lb o8 φ8 κ8 told8 l1 l2 K8 hA8 hB8 hl8 ht8 hT8 H8)
      | walk_at "s" | walk_at "call" | (refine ite_two ?_ ?_ <;> intro hc))

    exact hQQ _ κ8 φ8 la lb told8 o8 _ K8 l2 hA8 hB8 (by lia) hT8 (by with_reducible assumption) (by walk_at "lk") (by walk_at "lk") (by walk_at "lk") (by walk_at "lk")
  clear k1 k2 k3 k4 k5 k6 k7 H15
  intro s16 κ3 φ3 la3 lb3 told3 o3 m4 K3 le3 hA3 hB3 hl3 hT3 H16 k1 k2 k3 k4
  have hj3 := hA3.jlen hl3 (Str.ofString "")
  have hj3' := hj3
  rw [show Str.ofString "" = S [] by decide +kernel] at hj3'
  repeat' (first
      | ((with_reducible show wpAny _ _ (callWith _ (Value.ref 676) _ _ _) _ _ _); (with_reducible refine' r_kcall (by with_reducible assumption) (by with_reducible assumption) ?hk ?he ?hp ?_); (case hk => k_is); (case he => with_unfolding_all rfl); (case hp => with_unfolding_all rfl))
      | ((with_reducible refine r_add_str (by with_reducible assumption) ?hz ?_); (case hz => (walk_at "lgz")); intro _ _ _)
      | ((with_reducible show wpAny _ _ (call (Value.ref 676) _) _ _ _); (refine' mk_Rule (n := 0) (by with_reducible assumption) G R3 ?_); intro x dx s7 H7)
      | ((with_reducible show wpAny _ _ (call (Value.ref 803) [Value.ref lb3]) _ _ _); (refine s_joinF (by with_reducible assumption) G R3 K3.le hB3 (by lia) ?_); intro _ _ _)
      | walk_at "s" | walk_at "call" | (refine ite_two ?_ ?_ <;> intro hc))

  subst hJ
  exact fin 0 K3 (by with_reducible assumption) rfl hT3 (by with_reducible assumption) (cls_Rule w) (fun κ' l a b => wr_Rule G a b (hA3.up l).rw (by lia) ((hA.up le3).up l).rw hl1) (by walk_at "lg") (by simp only [List.length_append, List.length_cons, List.length_nil]; lia) ⟨by decide, by decide +kernel, by decide +kernel⟩ (fun κ' l a b => ⟨0, .oth a b (cls_Rule w) (by decide) (by decide)⟩)
abbrev FUN : Str := Str.ofString "function"
structure SpecEnd (w : World) (k : Nat) : Prop where
  go : ∀ {g0 : Heap} {P : Addr} {A : Around} {s : Shared} {tp : Addr} {otp : Obj} {rr : Nat} {t1 t2 : Tok} {Q : Value → Shared → Prop}, GW w g0 P → Inv g0 P s → Rm A (k + 8) → s.heap.get? tp = some otp → Tp otp → g0.objs.size ≤ tp →
    (∀ (tup : Addr) (s' : Shared) (o' : Obj) (ψ : Fz) (v : Value) (T : List Nat) (tz : Tok), Frs s.heap ψ s'.heap → Nd w g0 P ψ k v (FUN, T) → (∃ j, Last w ψ j v true) → s'.heap.IsTuple tup #[v, .str (S T) tz] → Pres P [tp] s s' → Inv g0 P s' → s'.heap.get? tp = some o' → Tp o' → Q (.ref tup) s') →
    wpAny (model PG w) A (call (.ref 829) [.ref tp, .int (rr : Nat) t1, .int (k : Nat) t2]) Q NoE s
theorem s_end {w : World} {A : Around} {c : Cx} {φ κ : Fz} {m : List (Str × Value)} {R : List (Addr × Obj)} {s : Shared} {k rr : Nat} {tp : Addr} {otp : Obj} {t1 t2 : Tok} {Q : Value → Shared → Prop} (SE : SpecEnd w k) (i : Nat) (H : St c φ m R s) (hκ : Kn c κ φ) (G : GW w c.g0 c.P) (r : Rm A (k + 8)) (hi : R[i]? = some (tp, otp)) (hT : Tp otp) (hD : ∀ b ∈ c.D, ∃ o, (b, o) ∈ R)
    (h : ∀ (tup : Addr) (s' : Shared) (o' : Obj) (φ' κ' : Fz) (v : Value) (T : List Nat) (tz : Tok), Fz.le φ φ' → Fz.le κ κ' → Kn c κ' φ' → Nd w c.g0 c.P κ' k v (FUN, T) → (∃ j, Last w κ' j v true) → s'.heap.IsTuple tup #[v, .str (S T) tz] → Tp o' → St c φ' m (R.set i (tp, o')) s' → Q (.ref tup) s') :
    wpAny (model PG w) A (call (.ref 829) [.ref tp, .int (rr : Nat) t1, .int (k : Nat) t2]) Q NoE s := by
  have L := H.led _ (List.mem_of_getElem? hi)
  refine SE.go G H.inv r L.1 hT L.2.2.2 fun tup s' o' ψ v T tz kF hn hl ht pr I' ho' hT' => ?_
  have H' := H.call1 i hi pr I' ho'
  obtain ⟨h1, h2, h3⟩ := H.joinAny H' kF (fun p hp => by
    obtain ⟨q, hq, e⟩ := mem_map_set hi hp
    cases z : ψ p.1 with
    | none => rfl
    | some o'' =>
      have a := kF.new _ _ z
      have b := (H.led q hq).1
      rw [e, a] at b; cases b)
  have le := le_joinR (hκ.le.trans h2) h3
  obtain ⟨j, hj⟩ := hl
  exact h tup s' o' _ _ v T tz h2 (Fz.le_left _ _) (hκ.join h2 h3 fun b o e => H.wasD hD (kF.new b o e)) (hn.up le) ⟨j, hj.up le⟩ ht hT' h1
theorem s_end2 {w : World} {A : Around} {c : Cx} {φ κ : Fz} {m : List (Str × Value)} {p q : Addr × Obj} {s : Shared} {k rr : Nat} {tp : Addr} {otp : Obj} {t1 t2 : Tok} {Q : Value → Shared → Prop} (SE : SpecEnd w k) (H : St c φ m [p, q, (tp, otp)] s) (hκ : Kn c κ φ) (G : GW w c.g0 c.P) (r : Rm A (k + 8)) (hT : Tp otp) (hD : ∀ b ∈ c.D, b = tp)
    (h : ∀ (tup : Addr) (s' : Shared) (o' : Obj) (φ' κ' : Fz) (v : Value) (T : List Nat) (tz : Tok), Fz.le φ φ' → Fz.le κ κ' → Kn c κ' φ' → Nd w c.g0 c.P κ' k v (FUN, T) → (∃ j, Last w κ' j v true) → s'.heap.IsTuple tup #[v, .str (S T) tz] → Tp o' → St c φ' m [p, q, (tp, o')] s' → Q (.ref tup) s') :
    wpAny (model PG w) A (call (.ref 829) [.ref tp, .int (rr : Nat) t1, .int (k : Nat) t2]) Q NoE s :=
  s_end SE 2 H hκ G r rfl hT (fun b hb => ⟨otp, hD b hb ▸ .tail _ (.tail _ (.head _))⟩) h
theorem s_rowM {w : World} {A : Around} {c : Cx} {φ κ : Fz} {m : List (Str × Value)} {s : Shared} {d n : Nat} {tp : Addr} {otp : Obj} {lst : Str} {t1 t2 t3 : Tok} {Q : Value → Shared → Prop} (SR : SpecRow w d) (H : St c φ m [(tp, otp)] s) (hκ : Kn c κ φ) (G : GW w c.g0 c.P) (r : Rm A (2 * d + 8)) (hT : Tp otp) (hD : ∀ b ∈ c.D, b = tp) (hn : n ≤ 100)
    (h : ∀ (tup : Addr) (s' : Shared) (la lb : Addr) (oa ob o' : Obj) (itsA itsB : Array Value) (φ' κ' : Fz) (told : List (Str × List Nat)), Fz.le φ φ' → Fz.le κ κ' → Kn c κ' φ' → (LstO oa itsA ∧ oa.dict = none) → All2 (NdL w c.g0 c.P κ' d) itsA.toList told → (LstO ob itsB ∧ ob.dict = none) → All2 (Te κ') itsB.toList told → told.length ≤ n + 1 →
      s'.heap.IsTuple tup #[.ref la, .ref lb] → Tp o' → St c φ' m [(lb, ob), (la, oa), (tp, o')] s' → Q (.ref tup) s') :
    wpAny (model PG w) A (call (.ref 822) [.ref tp, .int (n : Nat) t1, .int (d : Nat) t2, .str lst t3]) Q NoE s :=
  s_row SR 0 H hκ G r rfl hT (fun b hb => ⟨otp, hD b hb ▸ .head _⟩) hn h
theorem getLast_push {its : Array Value} {v : Value} : (its.push v).toList.getLast? = some v := by rw [Array.toList_push, List.getLast?_append]; rfl
theorem c_end {w : World} {k : Nat} (hk1 : k ≤ 1) (SR : SpecRow w 0) (SE : 1 ≤ k → SpecEnd w k) : SpecEnd w (k + 1) := by
  refine ⟨fun {g0 P A s tp otp rr t1 t2 Q} G I r htp hT hg h => ?_⟩
  refine' enter (n := k + 8) (binds := [("tape", .ref tp), ("r", .int (rr : Nat) t1), ("calls", .int (k + 1 : Nat) t2)]) (m := [("calls", .int (k + 1 : Nat) t2), ("r", .int (rr : Nat) t1), ("tape", .ref tp)]) (Ds := [tp]) G I (r.less (by lia)) [(tp, otp)] (by simpa using ⟨htp, hg⟩) (by simp) ?ho ?hcd ?hbind ?hm ?hDs ?body ?hloc ?hcell ?hco ?hgen ?hk
  walk_at "in"
  intro c φ s₁ e1 e2 e3 eD hφ H r; subst e1 e2 e3
  have R3 : Rm _ (0 + 3) := r.less (by lia)
  have snm : ∀ {A' : Around} {φ : Fz} {m' : List (Str × Value)} {R' : List (Addr × Obj)} {s' : Shared} {Q' : Value → Shared → Prop} {k : Nat} {t : Tok}, Rm A' 3 → St c φ m' R' s' → (∀ a l t' s'', l.length ≤ 2 → St c φ m' R' s'' → Q' (.str (S (a :: l)) t') s'') → wpAny (model PG w) A' (call (.ref 763) [.int k t]) Q' NoE s' :=
    fun r' H' h' => c_lawname (n := 2) G H'.inv r' fun a l t' s'' hl pr I' => h' a l t' s'' hl (H'.call0 pr I')
  have ssp : ∀ {A' : Around} {φ : Fz} {m' : List (Str × Value)} {R' : List (Addr × Obj)} {s' : Shared} {Q' : Value → Shared → Prop} {a : Nat} {l : List Nat} {t : Tok}, l.length ≤ 2 → Rm A' 3 → St c φ m' R' s' → (∀ t' s'', St c φ m' R' s'' → Q' (.str (S (idn (a :: l))) t') s'') → wpAny (model PG w) A' (call (.ref 777) [.str (S (a :: l)) t]) Q' NoE s' :=
    fun hl r' H' h' => c_spell (n := 1) G H'.inv r' (by simp only [List.length_cons]; lia) (by simp) fun t' s'' pr I' => h' t' s'' (H'.call0 pr I')
  have tD : ∀ b ∈ c.D, b = tp := fun b hb => by rw [eD] at hb; exact List.mem_singleton.mp hb
  refine cut_nx (fun s' C => ∀ κ φ' la lb told oa ob itsA itsB o' m', Kn c κ φ' → (LstO oa itsA ∧ oa.dict = none) → All2 (Nd w c.g0 c.P κ k) itsA.toList told → (LstO ob itsB ∧ ob.dict = none) → All2 (Te κ) itsB.toList told → told.length ≤ 3 → Tp o' → St c φ' m' [(lb, ob), (la, oa), (tp, o')] s' → Lk m' (Str.ofString "r") (.int (rr : Nat) t1) → Lk m' (Str.ofString "tape") (.ref tp) → Lk m' (Str.ofString "calls") (.int (k + 1 : Nat) t2) → Lk m' (Str.ofString "inner") (.ref la) → Lk m' (Str.ofString "below") (.ref lb) → C) ?_ ?_
  · intro QQ hQQ
    repeat' (first
      | walk_at "s" | walk_at "call" | (refine ite_two ?_ ?_ <;> intro hc))

    have r8 : Rm _ 8 := r.less (Nat.le_add_left 8 k)
    refine s_rowM SR (by with_reducible assumption) Kn.nil G r8 hT tD (by lia) ?_
    intro tup s8 la lb oa ob o8 itsA itsB φ8 κ8 told8 l1 l2 K8 hoa hA hob hB hl8 ht8 hT8 H8
    repeat' (first
      | walk_at "s" | walk_at "call" | (refine ite_two ?_ ?_ <;> intro hc))
    exact hQQ _ κ8 φ8 la lb told8 oa ob itsA itsB o8 _ K8 hoa (hA.mono fun _ _ x => x.1.mono (Nat.zero_le _)) hob hB (by lia) hT8 (by with_reducible assumption) (by walk_at "lk") (by walk_at "lk") (by walk_at "lk") (by walk_at "lk") (by walk_at "lk")
  clear H
  intro s2 κ1 φ1 la lb told1 oa ob itsA itsB o1 m1 K1 hA hnA hB hnB hl1 hT1 H2 k1 k2 k3 k4 k5
  have szA : itsA.size ≤ 900 := by have := hnA.length; simp at this; lia
  have szB : itsB.size ≤ 900 := by have := hnB.length; simp at this; lia
  refine cut_nx (fun s' C => ∀ (a0 : Nat) (l0 : List Nat) (tn : Tok) (m' : List (Str × Value)), l0.length ≤ 2 → St c φ1 m' [(lb, ob), (la, oa), (tp, o1)] s' → Lk m' (Str.ofString "r") (.int (rr : Nat) t1) → Lk m' (Str.ofString "tape") (.ref tp) → Lk m' (Str.ofString "calls") (.int (k + 1 : Nat) t2) → Lk m' (Str.ofString "inner") (.ref la) → Lk m' (Str.ofString "below") (.ref lb) → Lk m' (Str.ofString "name") (.str (S (a0 :: l0)) tn) → C) ?_ ?_
  · intro QQ hQQ
    repeat' (first
      | ((with_reducible refine' snm R3 (by with_reducible assumption) ?_); intro _ _ _ _ _ _)
      | walk_at "s" | walk_at "call" | (refine ite_two ?_ ?_ <;> intro hc))

    exact hQQ _ _ _ _ _ (by assumption) (by with_reducible assumption) (by walk_at "lk") (by walk_at "lk") (by walk_at "lk") (by walk_at "lk") (by walk_at "lk") (by walk_at "lk")
  clear k1 k2 k3 k4 k5 H2 snm
  intro s7 a0 l0 tn m0 hl0 H7 k1 k2 k3 k4 k5 k6
  have hn := idn_len a0 l0
  have hsl := sizeLine_eq
  have hz0 := Zb_pos k
  have hz1 := Zb_succ k
  have hz2 : Zb k ≤ 1280 := Nat.le_trans (Zb_mono (d := k) (d' := 1) (by lia)) (by decide)
  refine cut_nx (fun s' C => ∀ κ φ' told o' m', Kn c κ φ' → Rw w c.g0 c.P κ k la told → (∃ lo its u j, κ la = some lo ∧ LstO lo its ∧ its.size < 1000000 ∧ its.toList.getLast? = some u ∧ Last w κ j u true) → Tw κ lb told → told.length ≤ 5 → Tp o' → St c φ' m' [(tp, o')] s' → Lk m' (Str.ofString "name") (.str (S (a0 :: l0)) tn) → Lk m' (Str.ofString "inner") (.ref la) → Lk m' (Str.ofString "below") (.ref lb) → C) ?_ ?_
  · intro QQ hQQ
    have szA1 : itsA.size ≤ 1000 := by lia
    have szB1 : itsB.size ≤ 1000 := by lia
    with_reducible refine wpAny_If ?_
    repeat' (first
      | ((fail_if_success (with_reducible show wpAny _ _ (execs (_ :: _) _) _ _ _)); walk_at "s")
      | walk_at "call" | (refine ite_two ?_ ?_ <;> intro hc))
    · have SE := SE (by simp only [decide_eq_true_eq] at hc; lia)
      repeat' (first
      | ((with_reducible show wpAny _ _ (call (Value.ref 829) _) _ _ _); (refine s_end2 SE (by with_reducible assumption) K1 G (r.less (by lia)) hT1 tD ?_); intro tup s8 o8 φ8 κ8 v T tz l1 l2 K8 hnd hlast ht8 hT8 H8)
      | ((with_reducible refine' r_unpack (by with_reducible assumption) ?hh ?ht ?hn ?hs ?_); (case hh => exact r.hh); (case ht => with_reducible assumption); (case hn => rfl); (case hs => rfl); intro _ _; (show wpAny _ _ (assignInOrder [_, _] [_, _]) _ _ _); refine assignInOrder_cons ?_; (show wpAny _ _ (assign _ _ _) _ _ _))
      | ((with_reducible show wpAny _ _ (call (Value.builtin "list.append") _) _ _ _); (refine r_app1 (by with_reducible assumption) (by with_reducible assumption) (by first | with_reducible assumption | (simp only [Array.size_push]; lia)) ?_); intro _ _ _ _)
      | ((with_reducible show wpAny _ _ (getMethod (Value.ref _) _ _) _ _ _); first
          | (with_reducible refine r_appm (i := 1) (by with_reducible assumption) rfl hA ?_)
          | (with_reducible refine r_appm (i := 0) (by with_reducible assumption) rfl hB ?_))
      | walk_at "s" | walk_at "call" | (refine ite_two ?_ ?_ <;> intro hc))

      have HX := ‹St c φ8 _ (_ :: _ :: _ :: _ :: []) _›
      obtain ⟨κ3, φ3, K3, H3, lk3, lφ3, et, eb, ea⟩ := fz3 K8 HX (HX.notD eD (i := 0) rfl (j := 3) rfl (by decide)) (HX.notD eD (i := 1) rfl (j := 3) rfl (by decide)) (HX.notD eD (i := 2) rfl (j := 3) rfl (by decide))
      have hLA := ‹LstO _ (itsA.push _) ∧ _›
      have hLB := ‹LstO _ (itsB.push _) ∧ _›
      have hto := ‹TupO _ _›
      obtain ⟨j, hj⟩ := hlast
      have le := l2.trans lk3
      exact hQQ _ κ3 φ3 (told1 ++ [(FUN, T)]) o8 _ K3 ⟨_, _, ea, hLA.1, by rw [Array.toList_push]; exact (hnA.mono fun _ _ x => x.up le).snoc (hnd.up lk3)⟩ ⟨_, _, _, j, ea, hLA.1, by rw [Array.size_push]; lia, getLast_push, hj.up lk3⟩ ⟨_, _, eb, hLB.1, by rw [Array.toList_push]; exact (hnB.mono fun _ _ x => x.up le).snoc ⟨_, _, _, _, rfl, et, hto⟩⟩ (by rw [List.length_append, List.length_cons, List.length_nil]; lia) hT8 H3 (by walk_at "lk") (by walk_at "lk") (by walk_at "lk")
    · have R0 := r
      repeat' (first
      | ((with_reducible show wpAny _ _ (callWith _ (Value.ref 338) _ _ _) _ _ _); (with_reducible refine' r_kcall (by with_reducible assumption) (by with_reducible assumption) ?hk ?he ?hp ?_); (case hk => k_is); (case he => with_unfolding_all rfl); (case hp => with_unfolding_all rfl))
      | ((with_reducible show wpAny _ _ (callWith _ (Value.ref 117) _ _ _) _ _ _); (with_reducible refine' r_kcall (by with_reducible assumption) (by with_reducible assumption) ?hk ?he ?hp ?_); (case hk => k_is); (case he => with_unfolding_all rfl); (case hp => with_unfolding_all rfl))
      | ((with_reducible show wpAny _ _ (call (Value.ref 338) _) _ _ _); (refine' mk_String (n := 0) (by with_reducible assumption) G R3 ?_); intro x dx sx Hx)
      | ((with_reducible show wpAny _ _ (call (Value.ref 117) _) _ _ _); (refine' mk_ParseError (n := 0) (by with_reducible assumption) G R3 ?_); intro x2 dx2 sx2 Hx2)
      | ((with_reducible show wpAny _ _ (call (Value.builtin "list.append") _) _ _ _); first
          | ((refine r_app3 (by with_reducible assumption) (by with_reducible assumption) (by with_reducible assumption) ?_); intro _ _ _ _)
          | ((refine r_app6 (by with_reducible assumption) (by with_reducible assumption) (by simp only [Array.size_push]; lia) ?_); intro _ _ _ _))
      | ((with_reducible show wpAny _ _ (getMethod (Value.ref _) _ _) _ _ _); first
          | (with_reducible refine r_appm (i := 1) (by with_reducible assumption) rfl hA ?_)
          | (with_reducible refine r_appm (i := 2) (by with_reducible assumption) rfl hB ?_)
          | (with_reducible refine r_appm (i := 4) (by with_reducible assumption) rfl (by with_reducible assumption) ?_)
          | (with_reducible refine r_appm (i := 5) (by with_reducible assumption) rfl (by with_reducible assumption) ?_))
      | walk_at "s" | walk_at "call" | (refine ite_two ?_ ?_ <;> intro hc))

      have HX := ‹St c φ1 _ (_ :: _ :: _ :: _ :: _ :: _ :: _ :: _ :: _ :: []) _›
      have hLA := ‹LstO _ ((itsA.push _).push _) ∧ _›
      have hLB := ‹LstO _ ((itsB.push _).push _) ∧ _›
      have hto1 := ‹TupO _ #[Value.str (Str.ofString "string") _, _]›
      have hto2 := ‹TupO _ #[Value.str (Str.ofString "error") _, _]›
      rw [show Str.ofString "\"s" = S [34, 115] by decide +kernel] at hto1
      rw [show Str.ofString "" = S [] by decide +kernel] at hto2
      obtain ⟨κa, φa, Ka, Ha, lka, lφa, et2, ex2, edx2⟩ := fz3 K1 HX (HX.notD eD (i := 0) rfl (j := 8) rfl (by decide)) (HX.notD eD (i := 1) rfl (j := 8) rfl (by decide)) (HX.notD eD (i := 2) rfl (j := 8) rfl (by decide))
      obtain ⟨κb, φb, Kb, Hb, lkb, lφb, et1, ex1, edx1⟩ := fz3 Ka Ha (Ha.notD eD (i := 0) rfl (j := 5) rfl (by decide)) (Ha.notD eD (i := 1) rfl (j := 5) rfl (by decide)) (Ha.notD eD (i := 2) rfl (j := 5) rfl (by decide))
      obtain ⟨κ3, φ3, K3, H3, lk3, lφ3, eb, ea⟩ := fz2 Kb Hb (Hb.notD eD (i := 0) rfl (j := 2) rfl (by decide)) (Hb.notD eD (i := 1) rfl (j := 2) rfl (by decide))
      have le := (lka.trans lkb).trans lk3
      have leb := lkb.trans lk3
      have ex1 := lk3 _ _ ex1
      have edx1 := lk3 _ _ edx1
      have ex2 := leb _ _ ex2
      have edx2 := leb _ _ edx2
      have ex1' := ex1
      rw [show Str.ofString "\"s" = S [34, 115] by decide +kernel] at ex1'
      exact hQQ _ κ3 φ3 ((told1 ++ [(Str.ofString "string", [34, 115])]) ++ [(Str.ofString "error", [])]) o1 _ K3 ⟨_, _, ea, hLA.1, by
          rw [Array.toList_push, Array.toList_push]
          exact ((hnA.mono fun _ _ x => x.up le).snoc (.mk ex1' edx1 (cls_String w) (wr_String G ex1' edx1) (Nat.le_trans (by decide) hz0) (.inr ⟨by decide, rfl, by decide +kernel⟩) (fun e => absurd e (by decide +kernel)))).snoc (.mk ex2 edx2 (cls_ParseError w) (wr_ErrEof G ex2 edx2) (Nat.zero_le _) (.inr ⟨by decide, rfl, by decide +kernel⟩) (fun e => absurd e (by decide +kernel)))⟩ ⟨_, _, _, 0, ea, hLA.1, by rw [Array.size_push, Array.size_push]; lia, getLast_push, .eof ex2 edx2 rfl⟩ ⟨_, _, eb, hLB.1, by
          rw [Array.toList_push, Array.toList_push]
          exact ((hnB.mono fun _ _ x => x.up le).snoc ⟨_, _, _, _, rfl, lk3 _ _ et1, hto1⟩).snoc ⟨_, _, _, _, rfl, leb _ _ et2, hto2⟩⟩ (by simp only [List.length_append, List.length_cons, List.length_nil]; lia) hT1 H3 (by walk_at "lk") (by walk_at "lk") (by walk_at "lk")
  clear H7 k1 k2 k3 k4 k5 k6
  intro s8 κ2 φ2 told2 o2 m2 K2 hRw hLa hTw hl2 hT2 H8 k1 k2 k3
  have hj : (joinV (Str.ofString "") told2).length ≤ 5 * (Zb k + 5) := by
    obtain ⟨lo, its, _, _, hA⟩ := hRw.at_
    refine Nat.le_trans (joinV_len told2 _ fun p hp => ?_) (Nat.mul_le_mul_right _ hl2)
    obtain ⟨j, hj, rfl⟩ := List.mem_iff_getElem.mp hp
    exact (hA.get j (by rw [hA.length]; exact hj) hj).tlen
  have hj' := hj
  rw [show Str.ofString "" = S [] by decide +kernel] at hj'
  repeat' (first
      | ((with_reducible show wpAny _ _ (callWith _ (Value.ref 613) _ _ _) _ _ _); (with_reducible refine' r_kcall (by with_reducible assumption) (by with_reducible assumption) ?hk ?he ?hp ?_); (case hk => k_is); (case he => with_unfolding_all rfl); (case hp => with_unfolding_all rfl))
      | ((with_reducible refine' ssp hl0 R3 (by with_reducible assumption) ?_); intro _ _ _)
      | ((with_reducible refine r_add_str (by with_reducible assumption) ?hz ?_); (case hz => (walk_at "lgz")); intro _ _ _)
      | ((with_reducible show wpAny _ _ (call (Value.ref 803) [Value.ref lb]) _ _ _); (refine s_joinF (by with_reducible assumption) G R3 K2.le hTw (by lia) ?_); intro _ _ _)
      | ((with_reducible show wpAny _ _ (call (Value.ref 613) _) _ _ _); (refine' mk_Function (n := 0) (by with_reducible assumption) G R3 ?hl ?_); (case hl => (simp only [List.length_cons]; lia)); intro x dx y ty s7 H7)
      | walk_at "s" | walk_at "call" | (refine ite_two ?_ ?_ <;> intro hc))

  have HX := ‹St c φ2 _ (_ :: _ :: _ :: _ :: []) _›
  have hto := ‹TupO _ #[_, _]›
  obtain ⟨κ3, φ3, K3, H3, lk, lφ, et, ex, edx⟩ := fz3 K2 HX (HX.notD eD (i := 0) rfl (j := 3) rfl (by decide)) (HX.notD eD (i := 1) rfl (j := 3) rfl (by decide)) (HX.notD eD (i := 2) rfl (j := 3) rfl (by decide))
  obtain ⟨lo, its, u, j, ea, hlo, hz, hu, hlast⟩ := hLa
  have hLast : Last w κ3 (j + 1) (.ref x) true := .fn ex edx rfl (lk _ _ ea) hlo hz hu (hlast.up lk)
  rw [show S (idn (a0 :: l0)) ++ Str.ofString "(" ++ S (joinV (Str.ofString "") told2) = S (idn (a0 :: l0) ++ [40] ++ joinV (Str.ofString "") told2) by (walk_at "lg")] at hto
  exact h _ _ o2 κ3 (.ref x) (idn (a0 :: l0) ++ [40] ++ joinV (Str.ofString "") told2) _ (K3.frs H3) (.mk ex edx (cls_Function w) (by
    have hw := wr_Function G ex edx (hRw.up lk) hl2 (by simp only [List.length_cons]; lia) hLast
    rw [if_pos rfl, List.append_nil] at hw
    exact hw) (by simp only [List.length_append, List.length_cons, List.length_nil]; lia) (.inr ⟨by decide, rfl, by decide +kernel⟩) (fun e => absurd e (by decide +kernel))) ⟨j + 1, hLast⟩ (HX.isTup (.head _) hto) (HX.done eD) HX.inv (HX.get 3 rfl) hT2
theorem Rw.jlen {w : World} {g0 : Heap} {P : Addr} {κ : Fz} {d k : Nat} {la : Addr} {told : List (Str × List Nat)} (h : Rw w g0 P κ d la told) (hk : told.length ≤ k) (l : Str) : (joinV l told).length ≤ k * (Zb d + 5) := by
  obtain ⟨lo, its, _, _, hA⟩ := h.at_
  refine Nat.le_trans (joinV_len told l fun p hp => ?_) (Nat.mul_le_mul_right _ hk)
  obtain ⟨j, hj, rfl⟩ := List.mem_iff_getElem.mp hp
  exact (hA.get j (by rw [hA.length]; exact hj) hj).tlen
theorem Zb2 : Zb 2 = 25600 := by decide +kernel
theorem s_serF {w : World} {A : Around} {c : Cx} {φ κ : Fz} {m : List (Str × Value)} {R : List (Addr × Obj)} {s : Shared} {la : Addr} {told : List (Str × List Nat)} {Q : Value → Shared → Prop} (H : St c φ m R s) (G : GW w c.g0 c.P) (r : Rm A 13) (le : Fz.le κ φ) (hr : Rw w c.g0 c.P κ 2 la told) (hl : told.length ≤ 12)
    (h : ∀ t' s', St c φ m R s' → Q (.str (S (joinV (Str.ofString "") told)) t') s') : wpAny (model PG w) A (call (.ref 21) [.ref la]) Q NoE s := by
  have hj := hr.jlen hl (Str.ofString "")
  rw [Zb2] at hj
  refine c_serialize G H.inv (r.less (by decide)) (fun b o e => ⟨H.fz _ _ (le _ _ e), fun z => by have := le _ _ e; rw [z, H.Pφ] at this; cases this⟩) hr ?_ (by lia) fun t' s' pr I' => h t' s' (H.call0 pr I')
  rw [Zb2]; lia
theorem s_serL {w : World} {A : Around} {c : Cx} {φ κ : Fz} {m : List (Str × Value)} {R : List (Addr × Obj)} {s : Shared} {a : Addr} {o : Obj} {its : Array Value} {told : List (Str × List Nat)} {Q : Value → Shared → Prop} (H : St c φ m ((a, o) :: R) s) (G : GW w c.g0 c.P) (r : Rm A 13) (le : Fz.le κ φ) (ho : LstO o its) (hA : All2 (Nd w c.g0 c.P κ 2) its.toList told) (hl : told.length ≤ 12)
    (h : ∀ t' s', St c φ m R s' → Q (.str (S (joinV (Str.ofString "") told)) t') s') : wpAny (model PG w) A (call (.ref 21) [.ref a]) Q NoE s := by
  have hr : Rw w c.g0 c.P (φ.join fun b => List.lookup b ((a, o) :: R)) 2 a told := ⟨o, its, H.allK0 (p := (a, o)), ho, hA.mono fun _ _ x => x.up (le.trans (Fz.le_left _ _))⟩
  have hj := hr.jlen hl (Str.ofString "")
  rw [Zb2] at hj
  refine c_serialize G H.inv (r.less (by decide)) H.allK hr ?_ (by lia) fun t' s' pr I' => h t' s' ((H.call0 pr I').tail 1)
  rw [Zb2]; lia
theorem s_nser {w : World} {A : Around} {c : Cx} {φ κ : Fz} {m : List (Str × Value)} {R : List (Addr × Obj)} {s : Shared} {x : Addr} {q : Str × List Nat} {Q : Value → Shared → Prop} (H : St c φ m R s) (G : GW w c.g0 c.P) (r : Rm A 13) (le : Fz.le κ φ) (hn : Nd w c.g0 c.P κ 2 (.ref x) q)
    (h : ∀ t' s', St c φ m R s' → Q (.str (S q.2) t') s') : wpAny (model PG w) A (call (.ref 76) [.ref x]) Q NoE s := by
  refine c_nser G H.inv (r.less (by decide)) (fun b o e => ⟨H.fz _ _ (le _ _ e), fun z => by have := le _ _ e; rw [z, H.Pφ] at this; cases this⟩) hn (by rw [Zb2]; decide) fun t' s' pr I' => h t' s' (H.call0 pr I')
theorem Nd.ref {w : World} {g0 : Heap} {P : Addr} {κ : Fz} {d : Nat} {v : Value} {q : Str × List Nat} (h : Nd w g0 P κ d v q) : ∃ x C f dx sl ty, v = .ref x ∧ κ x = some (ins C dx sl) ∧ κ dx = some emptyDict ∧ Cls (KF w.params) C f ty := by
  cases h with
  | mk hx hdx cl => exact ⟨_, _, _, _, _, _, rfl, hx, hdx, cl⟩
theorem markV_n1 (k : Str) (T : List Nat) : markV (Str.ofString "") k T = [] := by
  unfold markV
  rw [if_neg (by rw [tabV_n1 (by decide +kernel)]; decide), if_neg (by rw [show (Str.ofString "" == Str.ofString "\\") = false by decide +kernel]; simp)]
/-- the seam -/
theorem joinV_seam {told : List (Str × List Nat)} {p : Nat} (h0 : 0 < p) (h1 : p < told.length) : joinV (Str.ofString "") told = joinV (Str.ofString "") (told.take p) ++ markV (told[p - 1]'(by lia)).1 told[p].1 told[p].2 ++ joinV (Str.ofString "") (told.drop p) := by
  have e0 : told.drop p = told[p] :: told.drop (p + 1) := List.drop_eq_getElem_cons h1
  have e1 : lastK (Str.ofString "") (told.take p) = (told[p - 1]'(by lia)).1 := by
    have : told.take p = told.take (p - 1) ++ [told[p - 1]'(by lia)] := by
      have := List.take_succ_eq_append_getElem (l := told) (i := p - 1) (by lia)
      rwa [show p - 1 + 1 = p by lia] at this
    rw [this, lastK_append]; rfl
  conv => lhs; rw [← List.take_append_drop p told, joinV_append, e1, e0]
  rw [e0]
  obtain ⟨k, T, hkT⟩ : ∃ k T, told[p] = (k, T) := ⟨_, _, rfl⟩
  have en : markV (Str.ofString "") k T = [] := markV_n1 k T
  rw [hkT]
  simp only [joinV, en, List.nil_append, List.append_assoc]
theorem joinV_ends {told : List (Str × List Nat)} {p : Nat} (h : p = 0 ∨ told.length ≤ p) : joinV (Str.ofString "") told = joinV (Str.ofString "") (told.take p) ++ [] ++ joinV (Str.ofString "") (told.drop p) := by
  rcases h with rfl | h
  · simp [joinV]
  · rw [List.take_of_length_le h, List.drop_of_length_le h]; simp [joinV]
theorem c_law {w : World} (SR : SpecRow w 2) (SE : ∀ k, k = 1 ∨ k = 2 → SpecEnd w k) {g0 : Heap} {P : Addr} {A : Around} {s : Shared} {Q : Value → Shared → Prop} (G : GW w g0 P) (I : Inv g0 P s) (r : Rm A 14) {l : Addr} {lo : Obj} {vs : List Value}
    (hl : s.heap.get? l = some lo) (hlP : l ≠ P) (hlo : LstO lo vs.toArray) (hx : ∀ v ∈ vs, ∃ (x : Int) (t : Tok), v = .int x t) (hz : vs.length ≤ 1000) (h : ∀ s', Pres P [] s s' → Inv g0 P s' → Q (.bool true) s') :
    codeAny (model PG w) A (.call (.ref 834) ⟨[.ref l], []⟩) (RQ Q) s := by
  refine' enterC (n := 13) (binds := [("script", .ref l)]) (m := [("script", .ref l)]) (Ds := []) G I r [] (by simp) (by simp) ?ho ?hcd ?hbind ?hm ?hDs ?body ?hloc ?hcell ?hco ?hgen ?hk
  walk_at "in"
  intro c φ s₁ e1 e2 e3 eD hφ H r; subst e1 e2 e3
  have hφl : φ l = some lo := (hφ l lo).mpr ⟨hl, by simp, hlP⟩
  have R3 : Rm _ (0 + 3) := r.less (by lia)
  have tD : ∀ {tp b : Addr}, b ∈ c.D → b = tp := fun hb => by rw [eD] at hb; cases hb
  have hsl := sizeLine_eq
  refine cut_nx (fun s' C => ∀ (f : Int) (tf : Tok) (m' : List (Str × Value)), St c φ m' [] s' → Lk m' (Str.ofString "script") (.ref l) → Lk m' (Str.ofString "first") (.int f tf) → C) ?_ ?_
  · intro QQ hQQ
    repeat' (first
      | ((with_reducible show wpAny _ _ (truthy (Value.ref l)) _ _ _); (refine r_truthy_list (by with_reducible assumption) hφl hlo (by simp; lia) ?_); intro _ _)
      | walk_at "i"
      | walk_at "s" | walk_at "call" | (refine ite_two ?_ ?_ <;> intro hc))

    · obtain ⟨v0, rest, rfl⟩ : ∃ v0 rest, vs = v0 :: rest := by
        cases vs with
        | nil => exact absurd hc (by simp)
        | cons a b => exact ⟨a, b, rfl⟩
      obtain ⟨x0, t0, rfl⟩ := hx v0 (.head _)
      refine r_fzitem (n := 0) (v := .int x0 t0) (St.fzLst (by with_reducible assumption) hφl hlo) rfl (by decide) rfl (by with_unfolding_all rfl) ?_
      repeat' (first
      | walk_at "i"
      | walk_at "s" | walk_at "call" | (refine ite_two ?_ ?_ <;> intro hc))

      exact hQQ _ _ _ _ (by with_reducible assumption) (by walk_at "lk") (by walk_at "lk")
    · exact hQQ _ _ _ _ (by with_reducible assumption) (by walk_at "lk") (by walk_at "lk")
  intro s2 f tf m1 H2 k1 k2
  clear H
  refine cut_nx (fun s' C => ∀ tp otp m', Tp otp → St c φ m' [(tp, otp)] s' → Lk m' (Str.ofString "script") (.ref l) → Lk m' (Str.ofString "first") (.int f tf) → Lk m' (Str.ofString "tape") (.ref tp) → C) ?_ ?_
  · intro QQ hQQ
    refine r_assign_listcomp (by with_unfolding_all rfl) (by kernel_rfl!) rfl (by kernel_rfl!) (by intro _; with_unfolding_all rfl) ?_
    repeat' (first
      | ((with_reducible refine' r_ltake (k := 24) (by with_reducible assumption) ?hl ?hi ?hz ?_ ?hs ?ht); (case hl => exact St.fzLst (by with_reducible assumption) hφl hlo); (case hi => rfl); (case hz => simp; lia); (case hs => intros; with_unfolding_all rfl); (case ht => intros; with_unfolding_all rfl); intro a0 oa0 s3 ha0 H3)
      | walk_at "s" | walk_at "call" | (refine ite_two ?_ ?_ <;> intro hc))

    have hsz : ((List.take 24 vs.toArray.toList).toArray).size ≤ 24 := by rw [List.size_toArray, List.length_take]; lia
    refine comp_listG (fun i vs => ∀ v ∈ vs, ∃ (k : Nat) (t : Tok), v = .int (k : Nat) t) r.hh H3 (H3.isLst (.head _) ha0) (fun e => absurd H3.Plt (Nat.not_lt.mpr (e ▸ (H3.led _ (.head _)).2.2.2))) (fun _ h => nomatch h) (by lia) (by kernel_rfl!) rfl (by kernel_rfl!) ?hE ?hK
    case hE =>
      intro i φ' m' R' s4 vs4 c' hi g1 g2 hJ hlen H4
      obtain ⟨x, t, ex⟩ : ∃ (x : Int) (t : Tok), ((List.take 24 vs.toArray.toList).toArray)[i] = .int x t := by
        exact hx _ (List.mem_of_mem_take (List.mem_toArray.mp (Array.getElem_mem hi)))
      rw [ex] at H4 ⊢
      repeat' (first
      | ((with_reducible refine' r_mod_int (b := 100000007) ?a (by with_reducible assumption) ?b ?_); (case a => exact rfl); (case b => decide); intro k tk s5 hk H5)
      | walk_at "s" | walk_at "call" | (refine ite_two ?_ ?_ <;> intro hc))

      exact ⟨fun v hv => (List.mem_append.mp hv).elim (hJ v) fun h => ⟨k, tk, List.mem_singleton.mp h⟩, H5⟩
    case hK =>
      intro a o vs2 s6 cenv hD hlen hJ hns h1 h2 h3 h4 h5 hSt
      refine r_use rfl (by with_unfolding_all rfl) hns h1 h2 h3 h4 h5 hSt fun s' H' => ?_
      obtain ⟨⟨hc, nn, hd⟩, hdn⟩ := hD
      exact hQQ _ a o _ ⟨hc, hdn, _, nn, hd, by simpa using hJ, by simp at hlen ⊢; lia⟩ (H'.sub (R' := [(a, o)]) (by simp) (by simp)) (by walk_at "lk") (by walk_at "lk") (by walk_at "lk")
  intro s3 tp otp m2 hT H3 k1 k2 k3
  clear H2
  refine cut_nx (fun s' C => ∀ κ φ' la lb told oa ob itsA itsB o' m', Kn c κ φ' → Fz.le φ φ' → (LstO oa itsA ∧ oa.dict = none) → All2 (NdL w c.g0 c.P κ 2) itsA.toList told → (LstO ob itsB ∧ ob.dict = none) → All2 (Te κ) itsB.toList told → told.length ≤ 11 → Tp o' → St c φ' m' [(lb, ob), (la, oa), (tp, o')] s' → Lk m' (Str.ofString "script") (.ref l) → Lk m' (Str.ofString "first") (.int f tf) → Lk m' (Str.ofString "tape") (.ref tp) → Lk m' (Str.ofString "nodes") (.ref la) → Lk m' (Str.ofString "told") (.ref lb) → C) ?_ ?_
  · intro QQ hQQ
    repeat' (first
      | walk_at "s" | walk_at "call" | (refine ite_two ?_ ?_ <;> intro hc))

    have r8 : Rm _ (2 * 2 + 8) := r.less (by lia)
    refine s_rowM (n := 10) (d := 2) SR (by with_reducible assumption) Kn.nil G r8 hT (fun b hb => tD hb) (by lia) ?_
    intro tup s8 la lb oa ob o8 itsA itsB φ8 κ8 told8 l1 l2 K8 hoa hA hob hB hl8 ht8 hT8 H8
    repeat' (first
      | walk_at "s" | walk_at "call" | (refine ite_two ?_ ?_ <;> intro hc))

    exact hQQ _ κ8 φ8 la lb told8 oa ob itsA itsB o8 _ K8 l1 hoa hA hob hB hl8 hT8 (by with_reducible assumption) (by walk_at "lk") (by walk_at "lk") (by walk_at "lk") (by walk_at "lk") (by walk_at "lk")
  clear k1 k2 k3 H3
  intro s4 κ1 φ1 la lb told1 oa ob itsA itsB o1 m3 K1 le1 hA hnA hB hnB hl1 hT1 H4 k1 k2 k3 k4 k5
  have szA : itsA.size ≤ 1000 := by have := hnA.length; simp at this; lia
  have szB : itsB.size ≤ 1000 := by have := hnB.length; simp at this; lia
  have noD : ∀ {a : Addr}, a ∉ c.D := fun {a} h => by rw [eD] at h; cases h
  refine cut_nx (fun s' C => ∀ κ φ' told m', Kn c κ φ' → Fz.le φ φ' → Rw w c.g0 c.P κ 2 la told → Tw κ lb told → told.length ≤ 12 → St c φ' m' [] s' → Lk m' (Str.ofString "script") (.ref l) → Lk m' (Str.ofString "nodes") (.ref la) → Lk m' (Str.ofString "told") (.ref lb) → C) ?_ ?_
  · intro QQ hQQ
    with_reducible refine wpAny_If ?_
    repeat' (first
      | ((with_reducible refine' r_mod_intE (b := 3) ?a (by with_reducible assumption) ?b ?_); (case a => exact rfl); (case b => decide); intro _ _ _)
      | ((fail_if_success (with_reducible show wpAny _ _ (execs (_ :: _) _) _ _ _)); walk_at "s")
      | walk_at "call" | (refine ite_two ?_ ?_ <;> intro hc))
    · have hk : (f % ((3 : Nat) : Int)).toNat = 1 ∨ (f % ((3 : Nat) : Int)).toNat = 2 := by
        have h0 : (f % ((3 : Nat) : Int)).toNat < 3 := emod_lt (by decide)
        simp only [decide_eq_true_eq] at hc
        lia
      have SE := SE _ hk
      have r10 : Rm _ ((f % ((3 : Nat) : Int)).toNat + 8) := r.less (by lia)
      repeat' (first
      | ((with_reducible refine' r_mod_intE (b := 3) ?a (by with_reducible assumption) ?b ?_); (case a => exact rfl); (case b => decide); intro _ _ _)
      | ((with_reducible refine' r_mod_int (b := 1000003) ?a (by with_reducible assumption) ?b ?_); (case a => exact rfl); (case b => decide); intro _ _ _ _ _)
      | ((with_reducible show wpAny _ _ (call (Value.ref 829) _) _ _ _); (refine s_end2 SE (by with_reducible assumption) K1 G r10 hT1 (fun b hb => tD hb) ?_); intro tup s8 o8 φ8 κ8 v T tz l1 l2 K8 hnd hlast ht8 hT8 H8)
      | ((with_reducible refine' r_unpack (by with_reducible assumption) ?hh ?ht ?hn ?hs ?_); (case hh => exact r.hh); (case ht => with_reducible assumption); (case hn => rfl); (case hs => rfl); intro _ _; (show wpAny _ _ (assignInOrder [_, _] [_, _]) _ _ _); refine assignInOrder_cons ?_; (show wpAny _ _ (assign _ _ _) _ _ _))
      | ((with_reducible show wpAny _ _ (call (Value.builtin "list.append") _) _ _ _); (refine r_app1 (by with_reducible assumption) (by with_reducible assumption) (by with_reducible assumption) ?_); intro _ _ _ _)
      | ((with_reducible show wpAny _ _ (getMethod (Value.ref _) _ _) _ _ _); first
          | (with_reducible refine r_appm (i := 1) (by with_reducible assumption) rfl hA ?_)
          | (with_reducible refine r_appm (i := 0) (by with_reducible assumption) rfl hB ?_))
      | walk_at "s" | walk_at "call" | (refine ite_two ?_ ?_ <;> intro hc))

      have HX := ‹St c φ8 _ (_ :: _ :: _ :: _ :: []) _›
      obtain ⟨κ3, φ3, K3, H3, lk3, lφ3, et, eb, ea⟩ := fz3 K8 HX noD noD noD
      have hLA := ‹LstO _ (itsA.push _) ∧ _›
      have hLB := ‹LstO _ (itsB.push _) ∧ _›
      have hto := ‹TupO _ _›
      have le := l2.trans lk3
      exact hQQ _ κ3 φ3 (told1 ++ [(FUN, T)]) _ K3 ((le1.trans l1).trans lφ3) ⟨_, _, ea, hLA.1, by rw [Array.toList_push]; exact (hnA.mono fun _ _ x => x.1.up le).snoc ((hnd.mono (by lia)).up lk3)⟩ ⟨_, _, eb, hLB.1, by rw [Array.toList_push]; exact (hnB.mono fun _ _ x => x.up le).snoc ⟨_, _, _, _, rfl, et, hto⟩⟩ (by simp only [List.length_append, List.length_cons, List.length_nil]; lia) (H3.tail 1) (by walk_at "lk") (by walk_at "lk") (by walk_at "lk")
    · have HX := ‹St c φ1 m3 (_ :: _ :: _ :: []) _›
      obtain ⟨κ3, φ3, K3, H3, lk3, lφ3, eb, ea⟩ := fz2 K1 HX noD noD
      exact hQQ _ κ3 φ3 told1 _ K3 (le1.trans lφ3) ⟨_, _, ea, hA.1, hnA.mono fun _ _ x => x.1.up lk3⟩ ⟨_, _, eb, hB.1, hnB.mono fun _ _ x => x.up lk3⟩ (by lia) (H3.tail 1) (by walk_at "lk") (by walk_at "lk") (by walk_at "lk")
  clear k1 k2 k3 k4 k5 H4 SE
  intro s5 κ2 φ2 told m4 K2 le2 hRw hTw hl2 H5 k1 k2 k3
  refine cut_nx (fun s' C => ∀ m' tt, St c φ2 m' [] s' → Lk m' (Str.ofString "script") (.ref l) → Lk m' (Str.ofString "nodes") (.ref la) → Lk m' (Str.ofString "told") (.ref lb) → Lk m' (Str.ofString "text") (.str (S (joinV (Str.ofString "") told)) tt) → C) ?_ ?_
  · intro QQ hQQ
    repeat' (first
      | ((with_reducible show wpAny _ _ (call (Value.ref 21) _) _ _ _); (refine s_serF (by with_reducible assumption) G r K2.le hRw hl2 ?_); intro _ _ _)
      | walk_at "s" | walk_at "call" | (refine ite_two ?_ ?_ <;> intro hc))

    exact hQQ _ _ _ (by with_reducible assumption) (by walk_at "lk") (by walk_at "lk") (by walk_at "lk") (by walk_at "lk")
  clear k1 k2 k3 H5
  intro s6 m5 tt H6 k1 k2 k3 k4
  have hj := hRw.jlen hl2 (Str.ofString "")
  rw [Zb2] at hj
  refine cut_if (fun s' => St c φ2 m5 [] s') ?_ ?_
  · intro QQ hQQ hRR
    repeat' (first
      | ((with_reducible show wpAny _ _ (call (Value.ref 803) _) _ _ _); (refine s_joinF (by with_reducible assumption) G R3 K2.le hTw (by lia) ?_); intro _ _ _)
      | walk_at "s" | walk_at "call" | (refine ite_two ?_ ?_ <;> intro hc))

    · exact absurd hc (by simp)
    · exact hQQ _ (by with_reducible assumption)
  clear H6
  intro s7 H7
  obtain ⟨oa2, its, eA, hoA, hAll⟩ := hRw.at_
  obtain ⟨ob2, itb, eB, hoB, hBll⟩ := hTw.at_
  have hφA := K2.le _ _ eA
  have hφB := K2.le _ _ eB
  have hlA := hAll.length
  have hlB := hBll.length
  simp only [Array.length_toList] at hlA hlB
  refine cut_nx (fun s' C => ∀ m', St c φ2 m' [] s' → Lk m' (Str.ofString "script") (.ref l) → Lk m' (Str.ofString "nodes") (.ref la) → Lk m' (Str.ofString "told") (.ref lb) → Lk m' (Str.ofString "text") (.str (S (joinV (Str.ofString "") told)) tt) → C) ?_ ?_
  · intro QQ hQQ
    repeat' (first
      | ((with_reducible show wpAny _ _ (call (Value.builtin "len") _) _ _ _); (refine r_len (by with_reducible assumption) (St.fzLst (by with_reducible assumption) hφA hoA) (by lia) ?_); intro _ s8 H8)
      | walk_at "s" | walk_at "call" | (refine ite_two ?_ ?_ <;> intro hc))

    refine r_for_range (J := fun i φ' m' R' => φ' = φ2 ∧ R' = [] ∧ Lk m' (Str.ofString "script") (.ref l) ∧ Lk m' (Str.ofString "nodes") (.ref la) ∧ Lk m' (Str.ofString "told") (.ref lb) ∧ Lk m' (Str.ofString "text") (.str (S (joinV (Str.ofString "") told)) tt)) r.hh H8 (by lia) ⟨rfl, rfl, by walk_at "lk", by walk_at "lk", by walk_at "lk", by walk_at "lk"⟩ ?_ ?_
    · rintro i φ' m' R' z tk s9 hi ⟨rfl, rfl, k1, k2, k3, k4⟩ _ H9
      have hi2 : i < told.length := by lia
      have hNd := hAll.get i (by simpa using hi) hi2
      obtain ⟨xt, ot, t5, t6, ext, hxt, hTt⟩ := hBll.get i (by simp only [Array.length_toList]; lia) hi2
      obtain ⟨x, C, f, dx, sl, ty, ex, hx, hdx, cl⟩ := hNd.ref
      have ex : its[i] = .ref x := by simpa using ex
      have ext : itb[i]'(by lia) = .ref xt := by simpa using ext
      have hNd : Nd w c.g0 c.P κ2 2 (.ref x) told[i] := by rw [← ex]; simpa using hNd
      have hx := K2.le _ _ hx
      have hdx := K2.le _ _ hdx
      have hxt := K2.le _ _ hxt
      repeat' (first
      | ((with_reducible show wpAny _ _ (subscriptTail _ _ (Value.ref la) (Value.int _ _)) _ _ _); (refine r_fzitem (n := i) (v := .ref x) (St.fzLst (by with_reducible assumption) hφA hoA) rfl (by lia) (by simp [ex, hi]) (by with_unfolding_all rfl) ?_))
      | ((with_reducible show wpAny _ _ (subscriptTail _ _ (Value.ref lb) (Value.int _ _)) _ _ _); (refine r_fzitem (n := i) (v := .ref xt) (St.fzLst (by with_reducible assumption) hφB hoB) rfl (by lia) (by simp [ext, hi2, hlB]) (by with_unfolding_all rfl) ?_))
      | ((with_reducible show wpAny _ _ (subscriptTail _ _ (Value.ref xt) (Value.int _ _)) _ _ _); (refine r_titem (n := 1) (v := .str (S told[i].2) t6) (St.fzTup (by with_reducible assumption) hxt hTt) rfl (by decide) rfl (by with_unfolding_all rfl) ?_))
      | (with_reducible refine' r_ser2 (by with_reducible assumption) G hx hdx cl ?_)
      | ((with_reducible show wpAny _ _ (callWith _ (Value.ref 76) _ _ _) _ _ _); (with_reducible refine' r_kcall0 (by with_reducible assumption) G cl.kp2 ?_))
      | ((with_reducible show wpAny _ _ (call (Value.ref 76) _) _ _ _); (refine s_nser (x := x) (q := told[i]) (by with_reducible assumption) G r K2.le hNd ?_); intro _ _ _)
      | walk_at "s" | walk_at "call" | (refine ite_two ?_ ?_ <;> intro hc))

      · exact absurd hc (by simp)
      · exact ⟨φ', _, [], by with_reducible assumption, Fz.le_refl _, rfl, rfl, by walk_at "lk", by walk_at "lk", by walk_at "lk", by walk_at "lk"⟩
    · rintro φ' m' R' s9 ⟨rfl, rfl, k1, k2, k3, k4⟩ _ H9
      repeat' (first
      | walk_at "s" | walk_at "call" | (refine ite_two ?_ ?_ <;> intro hc))

      exact hQQ _ _ (by with_reducible assumption) (by walk_at "lk") (by walk_at "lk") (by walk_at "lk") (by walk_at "lk")
  clear k1 k2 k3 k4 H7
  intro s8 m6 H8 k1 k2 k3 k4
  have hφl := le2 _ _ hφl
  refine cut_nx (fun s' C => ∀ (p : Nat) (tq : Tok) (m' : List (Str × Value)), p ≤ told.length → St c φ2 m' [] s' → Lk m' (Str.ofString "nodes") (.ref la) → Lk m' (Str.ofString "told") (.ref lb) → Lk m' (Str.ofString "text") (.str (S (joinV (Str.ofString "") told)) tt) → Lk m' (Str.ofString "place") (.int (p : Nat) tq) → C) ?_ ?_
  · intro QQ hQQ
    repeat' (first
      | ((with_reducible show wpAny _ _ (truthy (Value.ref l)) _ _ _); (refine r_truthy_list (by with_reducible assumption) hφl hlo (by simp; lia) ?_); intro _ _)
      | ((with_reducible refine' r_neg (by with_reducible assumption) ?_); intro _ _ _)
      | walk_at "i"
      | walk_at "s" | walk_at "call" | (refine ite_two ?_ ?_ <;> intro hc))

    · obtain ⟨u, hu⟩ : ∃ u, vs.toArray.toList.getLast? = some u := by
        cases q : vs.toArray.toList.getLast? with
        | some u => exact ⟨u, rfl⟩
        | none =>
          have : vs = [] := by simpa using q
          subst this
          exact absurd hc (by simp)
      obtain ⟨x0, t0, rfl⟩ := hx u (List.mem_of_getLast? (by simpa using hu))
      refine r_fzlast (v := .int x0 t0) (St.fzLst (by with_reducible assumption) hφl hlo) rfl (by simp; lia) hu (by with_unfolding_all rfl) ?_
      repeat' (first
      | ((with_reducible show wpAny _ _ (call (Value.builtin "len") _) _ _ _); (refine r_len (by with_reducible assumption) (St.fzLst (by with_reducible assumption) hφA hoA) (by lia) ?_); intro _ _ _)
      | ((with_reducible refine' r_mod_int (b := its.size + 1) ?a (by with_reducible assumption) ?b ?_); (case a => rfl); (case b => lia); intro kp tkp s9 hkp H9)
      | walk_at "i"
      | walk_at "s" | walk_at "call" | (refine ite_two ?_ ?_ <;> intro hc))

      exact hQQ _ kp _ _ (by lia) (by with_reducible assumption) (by walk_at "lk") (by walk_at "lk") (by walk_at "lk") (by walk_at "lk")
    · exact hQQ _ 0 _ _ (by lia) (by with_reducible assumption) (by walk_at "lk") (by walk_at "lk") (by walk_at "lk") (by exact Lk.here)
  clear k1 k2 k3 k4 H8
  intro s9 p tq m7 hp H9 k1 k2 k3 k4
  refine cut_nx (fun s' C => ∀ (tm : Tok) (m' : List (Str × Value)), St c φ2 m' [] s' → Lk m' (Str.ofString "nodes") (.ref la) → Lk m' (Str.ofString "told") (.ref lb) → Lk m' (Str.ofString "text") (.str (S (joinV (Str.ofString "") told)) tt) → Lk m' (Str.ofString "place") (.int (p : Nat) tq) → Lk m' (Str.ofString "mark") (.str (S []) tm) → C) ?_ ?_
  · intro QQ hQQ
    repeat' (first
      | walk_at "s" | walk_at "call" | (refine ite_two ?_ ?_ <;> intro hc))

    exact hQQ _ _ _ (by with_reducible assumption) (by walk_at "lk") (by walk_at "lk") (by walk_at "lk") (by walk_at "lk") (by rw [show S [] = Str.ofString "" by decide +kernel]; exact Lk.here)
  clear k1 k2 k3 k4 H9
  intro s10 tm0 m8 H10 k1 k2 k3 k4 k5
  refine cut_nx (fun s' C => ∀ (M : List Nat) (tm : Tok) (m' : List (Str × Value)), joinV (Str.ofString "") told = joinV (Str.ofString "") (told.take p) ++ M ++ joinV (Str.ofString "") (told.drop p) → M.length ≤ 4 → St c φ2 m' [] s' → Lk m' (Str.ofString "nodes") (.ref la) → Lk m' (Str.ofString "told") (.ref lb) → Lk m' (Str.ofString "text") (.str (S (joinV (Str.ofString "") told)) tt) → Lk m' (Str.ofString "place") (.int (p : Nat) tq) → Lk m' (Str.ofString "mark") (.str (S M) tm) → C) ?_ ?_
  · intro QQ hQQ
    with_reducible refine wpAny_If ?_
    repeat' (first
      | ((with_reducible show wpAny _ _ (call (Value.builtin "len") _) _ _ _); (refine r_len (by with_reducible assumption) (St.fzLst (by with_reducible assumption) hφA hoA) (by lia) ?_); intro _ _ _)
      | ((fail_if_success (with_reducible show wpAny _ _ (execs (_ :: _) _) _ _ _)); walk_at "s")
      | walk_at "call" | (refine ite_two ?_ ?_ <;> intro hc))
    · have hy1 := of_decide_eq_true ‹decide ((0 : Int) < _) = true›
      have hy2 := of_decide_eq_true ‹decide (_ < ((its.size : Nat) : Int)) = true›
      have hp1 : p < told.length := by lia
      have hp0 : p - 1 < told.length := by lia
      obtain ⟨x1, o1', u1, u1', ex1, hx1, hT1'⟩ := hBll.get (p - 1) (by simp only [Array.length_toList]; lia) hp0
      obtain ⟨x2, o2', u2, u2', ex2, hx2, hT2'⟩ := hBll.get p (by simp only [Array.length_toList]; lia) hp1
      have ex1 : itb[p - 1]'(by lia) = .ref x1 := by simpa using ex1
      have ex2 : itb[p]'(by lia) = .ref x2 := by simpa using ex2
      have hx1 := K2.le _ _ hx1
      have hx2 := K2.le _ _ hx2
      have hT1'' := fun {m : List (Str × Value)} {R : List (Addr × Obj)} {s : Shared} (H : St c φ2 m R s) => H.fzTup hx1 hT1'
      have hT2'' := fun {m : List (Str × Value)} {R : List (Addr × Obj)} {s : Shared} (H : St c φ2 m R s) => H.fzTup hx2 hT2'
      have hlen2 : told[p].2.length ≤ 25600 := by
        have := (hAll.get p (by simp only [Array.length_toList]; lia) hp1).tlen
        rw [Zb2] at this; exact this
      have mk : ∀ {A' : Around} {s' : Shared} {m' : List (Str × Value)} {R' : List (Addr × Obj)} {Q' : Value → Shared → Prop} {l k : Str} {p : List Nat} {t1 t2 t3 : Tok}, Rm A' 3 → St c φ2 m' R' s' → p.length ≤ 16777216 → (∀ t' s'', St c φ2 m' R' s'' → Q' (.str (S (markV l k p)) t') s'') →
        wpAny (model PG w) A' (call (.ref 796) [.str l t1, .str k t2, .str (S p) t3]) Q' NoE s' := fun r' H' hp h' => c_mark (n := 1) G H'.inv r' hp fun t' s'' pr I' => h' t' s'' (H'.call0 pr I')
      repeat' (first
      | ((with_reducible refine' r_sub_nat (b := 1) ?a ?b (by with_reducible assumption) ?_); (case a => exact rfl); (case b => lia); intro _ _ _)
      | ((with_reducible show wpAny _ _ (subscriptTail _ _ (Value.ref lb) (Value.int _ _)) _ _ _); first
          | (refine r_fzitem (n := p - 1) (v := .ref x1) (St.fzLst (by with_reducible assumption) hφB hoB) rfl (by lia) (by simp [ex1, hlB, hp0]) (by with_unfolding_all rfl) ?_)
          | (refine r_fzitem (n := p) (v := .ref x2) (St.fzLst (by with_reducible assumption) hφB hoB) rfl (by lia) (by simp [ex2, hlB, hp1]) (by with_unfolding_all rfl) ?_))
      | ((with_reducible show wpAny _ _ (subscriptTail _ _ (Value.ref x1) (Value.int _ _)) _ _ _); (refine r_titem (n := 0) (v := .str told[p - 1].1 u1) (hT1'' (by with_reducible assumption)) rfl (by decide) rfl (by with_unfolding_all rfl) ?_))
      | ((with_reducible show wpAny _ _ (subscriptTail _ _ (Value.ref x2) (Value.int _ _)) _ _ _); first
          | (refine r_titem (n := 0) (v := .str told[p].1 u2) (hT2'' (by with_reducible assumption)) rfl (by decide) rfl (by with_unfolding_all rfl) ?_)
          | (refine r_titem (n := 1) (v := .str (S told[p].2) u2') (hT2'' (by with_reducible assumption)) rfl (by decide) rfl (by with_unfolding_all rfl) ?_))
      | ((with_reducible show wpAny _ _ (call (Value.ref 796) _) _ _ _); (refine mk R3 (by with_reducible assumption) (by lia) ?_); intro _ _ _)
      | walk_at "s" | walk_at "call" | (refine ite_two ?_ ?_ <;> intro hc))

      exact hQQ _ _ _ _ (joinV_seam (by lia) hp1) (markV_len _ _ _) (by with_reducible assumption) (by walk_at "lk") (by walk_at "lk") (by walk_at "lk") (by walk_at "lk") (by walk_at "lk")
    · have hy2 := of_decide_eq_false (Bool.not_eq_true _ |>.mp ‹¬ decide (_ < ((its.size : Nat) : Int)) = true›)
      exact hQQ _ ([]) _ _ (joinV_ends (.inr (by lia))) (by decide) (by with_reducible assumption) (by walk_at "lk") (by walk_at "lk") (by walk_at "lk") (by walk_at "lk") (by walk_at "lk")
    · have hy2 := of_decide_eq_false (Bool.not_eq_true _ |>.mp ‹¬ decide ((0 : Int) < _) = true›)
      exact hQQ _ ([]) _ _ (joinV_ends (.inl (by lia))) (by decide) (by with_reducible assumption) (by walk_at "lk") (by walk_at "lk") (by walk_at "lk") (by walk_at "lk") (by walk_at "lk")
  clear k1 k2 k3 k4 k5 H10
  intro s11 M tm m9 hM hMl H11 k1 k2 k3 k4 k5
  have ht1 : (told.take p).length ≤ 12 := by rw [List.length_take]; lia
  have ht2 : (told.drop p).length ≤ 12 := by rw [List.length_drop]; lia
  have hjt : (joinV (Str.ofString "") (told.take p)).length + M.length + (joinV (Str.ofString "") (told.drop p)).length ≤ 400000 := by
    have := congrArg List.length hM
    simp only [List.length_append] at this
    lia
  have hjt' := hjt
  rw [show Str.ofString "" = S [] by decide +kernel] at hjt'
  repeat' (first
      | ((with_reducible refine r_add_str (by with_reducible assumption) ?hz ?_); (case hz => (walk_at "lgz")); intro _ _ _)
      | ((with_reducible refine' r_ltake (k := p) (by with_reducible assumption) ?hl ?hi ?hz ?_ ?hs ?ht); (case hl => exact St.fzLst (by with_reducible assumption) hφA hoA); (case hi => rfl); (case hz => lia); (case hs => intros; with_unfolding_all rfl); (case ht => intros; with_unfolding_all rfl); intro a1 oa1 s12 ha1 H12)
      | ((with_reducible refine' r_ldrop (k := p) (by with_reducible assumption) ?hl ?hi ?hz ?_ ?hs ?ht); (case hl => exact St.fzLst (by with_reducible assumption) hφA hoA); (case hi => rfl); (case hz => lia); (case hs => intros; with_unfolding_all rfl); (case ht => intros; with_unfolding_all rfl); intro a2 oa2 s13 ha2 H13)
      | ((with_reducible show wpAny _ _ (call (Value.ref 21) _) _ _ _); first
          | ((refine s_serL (told := told.take p) (by with_reducible assumption) G r K2.le ha1 (hAll.take p) ht1 ?_); intro _ _ _)
          | ((refine s_serL (told := told.drop p) (by with_reducible assumption) G r K2.le ha2 (hAll.drop p) ht2 ?_); intro _ _ _))
      | walk_at "s" | walk_at "call" | (refine ite_two ?_ ?_ <;> intro hc))

  rw [show (S (joinV (Str.ofString "") (told.take p)) ++ S M ++ S (joinV (Str.ofString "") (told.drop p)) == S (joinV (Str.ofString "") told)) = true by rw [hM, S_append, S_append]; simp]
  exact h _ (St.done (by assumption) eD) (St.inv (by assumption))
theorem K_code (w : World) : ∃ o vs, (KF w.params).lookup 34 = some o ∧ o.data = .fields vs ∧ vs.getD 11 .none = .ref 30 := ⟨_, _, by k_is, rfl, by rfl⟩
theorem K_30 (w : World) : (KF w.params).lookup 30 = none := by kernel_rfl!
theorem K_name (w : World) : nsIn (KF w.params) mainGlobals (Str.ofString "serialize_name") = some (some (.ref 35)) := by k_is
theorem K_law (w : World) : nsIn (KF w.params) mainGlobals (Str.ofString "law") = some (some (.ref 834)) := by k_is
theorem K_fn (w : World) : ∃ o fd, (KF w.params).lookup 35 = some o ∧ o.data = .func fd ∧ fd.code = .ref 34 := ⟨_, _, by k_is, rfl, rfl⟩
theorem K_rec : ∃ d ∈ recsOf hV, d.name = Str.ofString "serialize_name" := by decide +kernel
theorem tab30 {w : World} {mg mb : Str → Option Value} {loose : List Str} {mean : ExcName → Option Value} {h : Heap} (KX : (KF w.params).In h) (T : Top hV loose mean mg mb h) : h.IsCode 34 30 #[] ∧ h.TableAt 34 30 #[] := by
  obtain ⟨d, hd, en⟩ := K_rec
  obtain ⟨a, o, fd, c, P, h1, h2, h3, h4, h5, h6⟩ := T.tab d hd
  rw [en, mg_of KX T.g (K_name w)] at h1
  cases h1
  obtain ⟨o', fd', k1, k2, k3⟩ := K_fn w
  rw [KX _ _ k1] at h2
  cases h2
  rw [h3] at k2
  cases k2
  rw [h4] at k3
  cases k3
  obtain ⟨oc, vs, q1, q2, q3⟩ := K_code w
  have h7 := h5
  obtain ⟨o2, vs2, _, _, _, _, _, _, _, _, r1, r2, r3, _⟩ := h7
  rw [KX _ _ q1] at r1
  cases r1
  rw [q2] at r2
  cases r2
  rw [q3] at r3
  cases r3
  exact ⟨h5, h6⟩
theorem gd30 {w : World} {mg mb : Str → Option Value} {loose : List Str} {mean : ExcName → Option Value} {h : Heap} (KX : (KF w.params).In h) (T : Top hV loose mean mg mb h) : GW w (h.hide 30) 30 := by
  obtain ⟨hC, hT⟩ := tab30 KX T
  have ne : ∀ {b : Addr} {o : Obj}, b ≠ 30 → h.get? b = some o → (h.hide 30).get? b = some o := fun hb e => (Heap.hide_ne h hb).trans e
  refine ⟨fun a o e => ne (fun z => ?_) (KX a o e), ⟨hV, loose, mg, mb, ⟨T.g.at fun o e => ne (by decide) e, T.b.at fun o e => ne (by decide) e, ?_, T.builtins, T.free⟩⟩, ?_, Heap.hide_self _ _, by decide, ?_, ?_⟩
  · rw [z, K_30] at e; cases e
  · obtain ⟨mc, h1, h2⟩ := T.nolimit
    exact ⟨mc, h1.at fun o e => ne (by decide) e, h2⟩
  · rw [Heap.hide_size]; exact Heap.lt_size hT.2
  · obtain ⟨⟨o, vs, e, _⟩, _⟩ := hT
    exact ⟨o, ne (by decide) e⟩
  · obtain ⟨bm, ob, h1, h2, h3, h4, h5, h6⟩ := T.bmain
    refine ⟨mg, bm, ob, T.g.at fun o e => ne (by decide) e, h1, h2, ne (fun z => ?_) h3, h4, h5, h6⟩
    rw [z, hT.2] at h3
    cases h3
    cases h4
theorem old30 {w : World} {mg mb : Str → Option Value} {loose : List Str} {mean : ExcName → Option Value} {s s' : Shared} (KX : (KF w.params).In s.heap) (T : Top hV loose mean mg mb s.heap) (p : Pres 30 [] s s') (I : Inv (s.heap.hide 30) 30 s') : OldK s.heap s'.heap := by
  obtain ⟨hC, hT⟩ := tab30 KX T
  obtain ⟨ps, _, hT'⟩ := I.tab
  refine OldK.step_table (OldK.refl _) hT hT (by rw [Array.empty_append]; exact hT') (fun b o hb e => p.keep b o e (fun h => nomatch h) hb) (by decide)
theorem ints_all : ∀ {vs : List Value} {xs : List Int}, IntsAre vs xs → ∀ v ∈ vs, ∃ (x : Int) (t : Tok), v = .int x t
  | _, _, .nil, v, h => nomatch h
  | _, _, .cons n t r, v, h => by
    rcases List.mem_cons.mp h with rfl | h
    · exact ⟨n, t, rfl⟩
    · exact ints_all r v h
theorem ints_len : ∀ {vs : List Value} {xs : List Int}, IntsAre vs xs → vs.length = xs.length
  | _, _, .nil => rfl
  | _, _, .cons _ _ r => by rw [List.length_cons, List.length_cons, ints_len r]
theorem rm_caller : Rm callerA 14 := ⟨rfl, by decide +kernel, by decide +kernel⟩
theorem law_all {w : World} {mg mb : Str → Option Value} {loose : List Str} {mean : ExcName → Option Value} {s : Shared} {l fa : Addr} {vs : List Value} {xs : List Int} (KX : (KF w.params).In s.heap) (T : Top hV loose mean mg mb s.heap) (hmg : mg (Str.ofString "law") = some (.ref fa)) (hg : s.gens = #[])
    (hl : s.heap.IsList l vs.toArray) (hI : IntsAre vs xs) (hlen : xs.length ≤ 63) :
    codeAny (model PG w) callerA (.call (.ref fa) ⟨[.ref l], []⟩) (fun r s' => r = .ok (.ret (.bool true)) ∧ OldK s.heap s'.heap ∧ s'.os = s.os ∧ AllBare s'.gens) s := by
  rw [mg_of KX T.g (K_law w)] at hmg
  cases hmg
  have G := gd30 KX T
  obtain ⟨hC, hT⟩ := tab30 KX T
  have I : Inv (s.heap.hide 30) 30 s := ⟨fun b o e => Heap.of_hide e, .of_eq hg, ⟨#[], hC, hT⟩, by rw [Heap.hide_size]; exact Nat.le_refl _⟩
  obtain ⟨lo, hlo, hlst⟩ := hl
  have S0 : SpecNode w 0 := c_node (by decide) fun e h => absurd h (Nat.succ_ne_zero e).symm
  have R0 : SpecRow w 0 := c_row S0
  have S1 : SpecNode w 1 := c_node (by decide) fun e h => by cases h; exact R0
  have R1 : SpecRow w 1 := c_row S1
  have S2 : SpecNode w 2 := c_node (by decide) fun e h => by cases h; exact R1
  have R2 : SpecRow w 2 := c_row S2
  have E1 : SpecEnd w 1 := c_end (k := 0) (by decide) R0 fun h => absurd h (by decide)
  have E2 : SpecEnd w 2 := c_end (k := 1) (by decide) R0 fun _ => E1
  refine codeAny_mono (c_law (Q := fun v s' => v = .bool true ∧ Pres 30 [] s s' ∧ Inv (s.heap.hide 30) 30 s') R2 (fun k hk => by rcases hk with rfl | rfl <;> assumption) G I rm_caller hlo (fun z => ?_) hlst (ints_all hI) (by rw [ints_len hI]; lia) fun s' p I' => ⟨rfl, p, I'⟩) fun r s' z => ?_
  · rw [z, hT.2] at hlo
    cases hlo
    have := hlst.1
    cases this
  · rcases r with e | (v | _ | _ | _) <;> first | exact z.elim | skip
    obtain ⟨rfl, p, I'⟩ := z
    exact ⟨rfl, old30 KX T p I', p.os, I'.bare⟩
theorem post_eq (a : List WData) : WTm.holds [] (WTm.res.eq (WTm.lit (WData.bool true))) { args := a, res := some (WData.bool true), after := a } = true := by
  unfold WTm.holds
  rw [w_eq_bool (w_res rfl) (show (WTm.lit (WData.bool true)).value [] _ = some (.bool true) by simp [WTm.value])]
  rfl
theorem post_ok (a : List WData) : PySem.Challenge.rw_te0059_01.row.claim.post a (WData.bool true) a = true := by
  show (WShape.has [] (WData.bool true) WShape.bool && WTm.holds [] (WTm.res.eq (WTm.lit (WData.bool true))) { args := a, res := some (WData.bool true), after := a }) = true
  rw [post_eq]; first | rfl | decide
end Mine
open PySem PySem.W PySem.Calls PyProof.Rows PySem.Spec in
theorem PySem.Challenge.cw_te0059_01_holds : PySem.Challenge.rw_te0059_01.Holds := by
  refine holds_law Mine.hSaid fun said => ?_
  refine holds_open (q := Mine.hV) (loose := Mine.hLoose) (Xt := Mine.hX) (XP := XL Mine.hV []) (Yf := Mine.hHook.obs) (Ya := Mine.hHook.val) (YP := Mine.hHook.says) (N := 16616) Mine.hLeft Mine.hHook.of Mine.hHook.keeps (fun s e => xl_of s (Bool.and_eq_true_iff.mp e).1) XL.keeps (by rfl) (by rfl) (by rfl) (fun s e => recFacts_of (Bool.and_eq_true_iff.mp e).2) (by rfl) (by first | assumption | decide +kernel) (by decide +kernel) ⟨rfl, rfl, rfl, rfl, rfl, by decide +kernel⟩ ?hw ?hc
  case hw => w_witness2
  case hc =>
  intro w s₀ s₁ mg mb G Y fa o pm cd doc dV kV ho hd hcd hD hmg hg args vals as hpre hlay hrd hwl hlo
  have KX : (Mine.KF w.params).In s₁.heap := Y
  refine Ground.open G ?_
  intro T B D TE TW
  wrow_args hpre hlay hrd hwl hlo
  all_goals (first | refine callC_kw (enter_call ?_) | refine enter_call ?_ | refine callC_kw (enter_callW ?_) | refine enter_callW ?_)
  have hL := ‹s₁.heap.IsList _ (List.toArray _)›
  have hI := ‹IntsAre _ _›
  have hlen := ‹¬ ((63 : Nat) : Int) < _›
  refine codeAny_mono (Mine.law_all KX T hmg hg hL hI (by lia)) fun r s' z => ?_
  obtain ⟨rfl, h1, h2, h3⟩ := z
  refine ⟨.inl ⟨.bool true, .bool true, [], rfl, ?_, .bool true, ?_, ?_⟩, h1, h2, h3⟩
  · intro _; rfl
  · exact Mine.post_ok _
  · exact fun _ => ⟨List.nodup_nil, fun _ h => nomatch h⟩
