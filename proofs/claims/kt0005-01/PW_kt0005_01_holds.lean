import PyProof.Rows.All
import Wide.All
import OpenK.AllK
import Wide.FinOn
import KE.KLam
import KE.KEqSeq
import KE.KBytesAny
import KE.BytesMulAny
import KE.BitLaws
import KE.KEqDeep
import PySem.Challenge.RW_kt0005_01
set_option Elab.async false

section
open PySem PySem.W PyProof.Rows
set_option maxRecDepth 100000
set_option maxHeartbeats 8000000
namespace Mine
open PySem PySem.Spec PySem.Calls PyProof.Rows PySem.W
noncomputable abbrev p0 : Program := (OpenRow.toRowW (OpenLaw.row PySem.Challenge.rw_kt0005_01)).1
noncomputable def fp : Option Stmt → Option (Arguments × List Stmt × Scope)
  | some (.FunctionDef _ a b _ _ _ s _ _ _) => some (a, b, s)
  | _ => none
noncomputable def inC : Option Stmt → List Stmt
  | some (.ClassDef _ _ _ b _ _ _ _ _ _ _) => b
  | _ => []
/-- the written part of the top (what comes of the text is taken out of the text) -/
noncomputable abbrev K0 {a0 : Arguments} {b0 : List Stmt} {s0 : Scope} {a1 : Arguments} {b1 : List Stmt} {s1 : Scope} {a2 : Arguments} {b2 : List Stmt} {s2 : Scope} {a3 : Arguments} {b3 : List Stmt} {s3 : Scope} {a4 : Arguments} {b4 : List Stmt} {s4 : Scope} {a5 : Arguments} {b5 : List Stmt} {s5 : Scope} {a6 : Arguments} {b6 : List Stmt} {s6 : Scope} {a7 : Arguments} {b7 : List Stmt} {s7 : Scope} {a8 : Arguments} {b8 : List Stmt} {s8 : Scope} {a9 : Arguments} {b9 : List Stmt} {s9 : Scope} {a10 : Arguments} {b10 : List Stmt} {s10 : Scope} {a11 : Arguments} {b11 : List Stmt} {s11 : Scope} {a12 : Arguments} {b12 : List Stmt} {s12 : Scope} {a13 : Arguments} {b13 : List Stmt} {s13 : Scope} {a14 : Arguments} {b14 : List Stmt} {s14 : Scope} {a15 : Arguments} {b15 : List Stmt} {s15 : Scope}
    (_ : fp p0.main.body[0]? = some (a0, b0, s0)) (_ : fp (inC p0.main.body[2]?)[1]? = some (a1, b1, s1)) (_ : fp (inC p0.main.body[2]?)[2]? = some (a2, b2, s2)) (_ : fp (inC p0.main.body[2]?)[3]? = some (a3, b3, s3)) (_ : fp p0.main.body[4]? = some (a4, b4, s4)) (_ : fp p0.main.body[6]? = some (a5, b5, s5)) (_ : fp p0.main.body[7]? = some (a6, b6, s6)) (_ : fp p0.main.body[9]? = some (a7, b7, s7)) (_ : fp p0.main.body[11]? = some (a8, b8, s8)) (_ : fp p0.main.body[13]? = some (a9, b9, s9)) (_ : fp p0.main.body[15]? = some (a10, b10, s10)) (_ : fp p0.main.body[17]? = some (a11, b11, s11)) (_ : fp p0.main.body[18]? = some (a12, b12, s12)) (_ : fp p0.main.body[19]? = some (a13, b13, s13)) (_ : fp p0.main.body[20]? = some (a14, b14, s14)) (_ : fp p0.main.body[21]? = some (a15, b15, s15)) (P : Params) : Frag :=
    [⟨2, ⟨.none, none, (.dict #[] 0), #[]⟩⟩,
  ⟨3, ⟨(.type "dict"), none, (.dict #[⟨(PyData.keyHash P "__name__"), (.str "__name__" 165), (.str "law_kt0005_01" 325)⟩, ⟨(PyData.keyHash P "__doc__"), (.str "__doc__" 166), .none⟩, ⟨(PyData.keyHash P "__package__"), (.str "__package__" 167), .none⟩, ⟨(PyData.keyHash P "__loader__"), (.str "__loader__" 168), (.builtin "__main__.__loader__#opaque")⟩, ⟨(PyData.keyHash P "__spec__"), (.str "__spec__" 169), .none⟩, ⟨(PyData.keyHash P "__annotations__"), (.str "__annotations__" 170), (.ref 6)⟩, ⟨(PyData.keyHash P "__builtins__"), (.str "__builtins__" 171), (.ref 4)⟩, ⟨(PyData.keyHash P "__file__"), (.str "__file__" 173), (.str "/claim/cut.py" 172)⟩, ⟨(PyData.keyHash P "__cached__"), (.str "__cached__" 174), .none⟩, ⟨(PyData.keyHash P "_wall"), (.str "_wall" 193), (.ref 21)⟩, ⟨(PyData.keyHash P "filterfalse"), (.str "filterfalse" 245), (.ref 54)⟩, ⟨(PyData.keyHash P "_filter"), (.str "_filter" 255), (.ref 65)⟩, ⟨(PyData.keyHash P "_buffer"), (.str "_buffer" 265), (.ref 72)⟩, ⟨(PyData.keyHash P "_truth"), (.str "_truth" 273), (.ref 79)⟩, ⟨(PyData.keyHash P "_B64"), (.str "_B64" 275), (.bytes #[65, 66, 67, 68, 69, 70, 71, 72, 73, 74, 75, 76, 77, 78, 79, 80, 81, 82, 83, 84, 85, 86, 87, 88, 89, 90, 97, 98, 99, 100, 101, 102, 103, 104, 105, 106, 107, 108, 109, 110, 111, 112, 113, 114, 115, 116, 117, 118, 119, 120, 121, 122, 48, 49, 50, 51, 52, 53, 54, 55, 56, 57, 43, 47] 274)⟩, ⟨(PyData.keyHash P "b2a_base64"), (.str "b2a_base64" 289), (.ref 87)⟩, ⟨(PyData.keyHash P "b64encode"), (.str "b64encode" 300), (.ref 95)⟩, ⟨(PyData.keyHash P "cmp_to_key"), (.str "cmp_to_key" 311), (.ref 102)⟩, ⟨(PyData.keyHash P "_initial_missing"), (.str "_initial_missing" 312), (.ref 103)⟩, ⟨(PyData.keyHash P "reduce"), (.str "reduce" 324), (.ref 111)⟩, ⟨(PyData.keyHash P "_law_row"), (.str "_law_row" 336), (.ref 118)⟩, ⟨(PyData.keyHash P "_law_shared"), (.str "_law_shared" 342), (.ref 123)⟩, ⟨(PyData.keyHash P "_law_next"), (.str "_law_next" 353), (.ref 130)⟩, ⟨(PyData.keyHash P "_law_meets"), (.str "_law_meets" 363), (.ref 137)⟩, ⟨(PyData.keyHash P "law"), (.str "law" 369), (.ref 142)⟩] 25), #[]⟩⟩,
  ⟨6, ⟨(.type "dict"), none, (.dict #[] 0), #[]⟩⟩,
  ⟨15, ⟨(.type "tuple"), none, (.seq #[] 0), #[]⟩⟩,
  ⟨17, ⟨(.type "tuple"), none, (.seq #[(.str "k" 190)] 0), #[]⟩⟩,
  ⟨18, ⟨(.type "tuple"), none, (.seq #[] 0), #[]⟩⟩,
  ⟨20, ⟨(.type "code"), none, (.fields #[(.str "_wall" 187), (.str "_wall" 188), (.str "/claim/cut.py" 189), (.int 1 0), (.int 1 0), (.int 0 0), (.int 0 0), (.int 3 0), (.ref 15), (.bool true), (.int 181 0), (.ref 16), .none, (.ref 17), (.ref 18), (.ref 19), (.int 191 0), (.int 1 0), (.str "/claim/cut.py" 192)]), #[]⟩⟩,
  ⟨21, ⟨(.type "function"), none, (.func ⟨"_wall", "_wall", a0, (.stmts b0), s0, 3, [], .none, .none, .none, (.str "__main__" 164), none, (.ref 20), .none, 0⟩), #[]⟩⟩,
  ⟨29, ⟨(.type "tuple"), none, (.seq #[(.str "_it" 208), (.str "_func" 209)] 0), #[]⟩⟩,
  ⟨30, ⟨(.type "tuple"), none, (.seq #[] 0), #[]⟩⟩,
  ⟨32, ⟨(.type "tuple"), none, (.seq #[(.str "self" 214), (.str "function" 215), (.str "iterable" 216)] 0), #[]⟩⟩,
  ⟨33, ⟨(.type "tuple"), none, (.seq #[] 0), #[]⟩⟩,
  ⟨35, ⟨(.type "code"), none, (.fields #[(.str "__init__" 211), (.str "filterfalse.__init__" 212), (.str "/claim/cut.py" 213), (.int 8 0), (.int 3 0), (.int 3 0), (.int 0 0), (.int 3 0), (.ref 30), (.bool true), (.int 181 0), (.ref 31), .none, (.ref 32), (.ref 33), (.ref 34), (.int 217 0), (.int 8 0), (.str "/claim/cut.py" 218)]), #[]⟩⟩,
  ⟨36, ⟨(.type "function"), none, (.func ⟨"__init__", "filterfalse.__init__", a1, (.stmts b1), s1, 3, [], .none, .none, .none, (.str "itertools" 194), none, (.ref 35), .none, 0⟩), #[]⟩⟩,
  ⟨37, ⟨(.type "tuple"), none, (.seq #[] 0), #[]⟩⟩,
  ⟨39, ⟨(.type "tuple"), none, (.seq #[(.str "self" 223)] 0), #[]⟩⟩,
  ⟨40, ⟨(.type "tuple"), none, (.seq #[] 0), #[]⟩⟩,
  ⟨42, ⟨(.type "code"), none, (.fields #[(.str "__iter__" 220), (.str "filterfalse.__iter__" 221), (.str "/claim/cut.py" 222), (.int 12 0), (.int 1 0), (.int 0 0), (.int 0 0), (.int 3 0), (.ref 37), (.bool true), (.int 181 0), (.ref 38), .none, (.ref 39), (.ref 40), (.ref 41), (.int 224 0), (.int 12 0), (.str "/claim/cut.py" 225)]), #[]⟩⟩,
  ⟨43, ⟨(.type "function"), none, (.func ⟨"__iter__", "filterfalse.__iter__", a2, (.stmts b2), s2, 3, [], .none, .none, .none, (.str "itertools" 194), none, (.ref 42), .none, 0⟩), #[]⟩⟩,
  ⟨44, ⟨(.type "tuple"), none, (.seq #[] 0), #[]⟩⟩,
  ⟨46, ⟨(.type "tuple"), none, (.seq #[(.str "self" 230), (.str "func" 231), (.str "item" 232)] 0), #[]⟩⟩,
  ⟨47, ⟨(.type "tuple"), none, (.seq #[] 0), #[]⟩⟩,
  ⟨49, ⟨(.type "code"), none, (.fields #[(.str "__next__" 227), (.str "filterfalse.__next__" 228), (.str "/claim/cut.py" 229), (.int 15 0), (.int 1 0), (.int 0 0), (.int 0 0), (.int 3 0), (.ref 44), (.bool true), (.int 181 0), (.ref 45), .none, (.ref 46), (.ref 47), (.ref 48), (.int 233 0), (.int 15 0), (.str "/claim/cut.py" 234)]), #[]⟩⟩,
  ⟨50, ⟨(.type "function"), none, (.func ⟨"__next__", "filterfalse.__next__", a3, (.stmts b3), s3, 3, [], .none, .none, .none, (.str "itertools" 194), none, (.ref 49), .none, 0⟩), #[]⟩⟩,
  ⟨51, ⟨(.type "tuple"), none, (.seq #[(.str "_func" 236), (.str "_it" 237)] 0), #[]⟩⟩,
  ⟨53, ⟨(.type "dict"), none, (.dict #[⟨(PyData.keyHash P "__module__"), (.str "__module__" 203), (.str "itertools" 194)⟩, ⟨(PyData.keyHash P "__firstlineno__"), (.str "__firstlineno__" 207), (.int 5 206)⟩, ⟨(PyData.keyHash P "__slots__"), (.str "__slots__" 210), (.ref 29)⟩, ⟨(PyData.keyHash P "__init__"), (.str "__init__" 219), (.ref 36)⟩, ⟨(PyData.keyHash P "__iter__"), (.str "__iter__" 226), (.ref 43)⟩, ⟨(PyData.keyHash P "__next__"), (.str "__next__" 235), (.ref 50)⟩, ⟨(PyData.keyHash P "__static_attributes__"), (.str "__static_attributes__" 238), (.ref 51)⟩, ⟨(PyData.keyHash P "_func"), (.str "_func" 240), (.ref 55)⟩, ⟨(PyData.keyHash P "_it"), (.str "_it" 242), (.ref 56)⟩, ⟨(PyData.keyHash P "__doc__"), (.str "__doc__" 243), .none⟩] 4), #[]⟩⟩,
  ⟨54, ⟨(.type "type"), none, (.cls ⟨"filterfalse", [(.type "object")], [(.ref 54), (.type "object")], 53, "filterfalse", false, ["_func", "_it"], [], false, none, false⟩), #[none, none, (some (.str "filterfalse" 196)), (some (.str "filterfalse" 204)), (some (.builtin "object.__new__")), (some (.bool false))]⟩⟩,
  ⟨55, ⟨(.type "member_descriptor"), none, (.fields #[(.str "_func" 239), (.ref 54), (.builtin "proto.slot"), (.builtin "proto.slot#set"), (.int 1 0)]), #[]⟩⟩,
  ⟨56, ⟨(.type "member_descriptor"), none, (.fields #[(.str "_it" 241), (.ref 54), (.builtin "proto.slot"), (.builtin "proto.slot#set"), (.int 0 0)]), #[]⟩⟩,
  ⟨59, ⟨(.type "tuple"), none, (.seq #[] 0), #[]⟩⟩,
  ⟨61, ⟨(.type "tuple"), none, (.seq #[(.str "flist" 251), (.str "skip" 252)] 0), #[]⟩⟩,
  ⟨62, ⟨(.type "tuple"), none, (.seq #[] 0), #[]⟩⟩,
  ⟨64, ⟨(.type "code"), none, (.fields #[(.str "_filter" 248), (.str "_filter" 249), (.str "/claim/cut.py" 250), (.int 25 0), (.int 2 0), (.int 0 0), (.int 0 0), (.int 3 0), (.ref 59), (.bool true), (.int 181 0), (.ref 60), .none, (.ref 61), (.ref 62), (.ref 63), (.int 253 0), (.int 25 0), (.str "/claim/cut.py" 254)]), #[]⟩⟩,
  ⟨65, ⟨(.type "function"), none, (.func ⟨"_filter", "_filter", a4, (.stmts b4), s4, 3, [], .none, .none, .none, (.str "cpy313.filecmp" 246), none, (.ref 64), .none, 0⟩), #[]⟩⟩,
  ⟨66, ⟨(.type "tuple"), none, (.seq #[] 0), #[]⟩⟩,
  ⟨68, ⟨(.type "tuple"), none, (.seq #[(.str "data" 261), (.str "t" 262)] 0), #[]⟩⟩,
  ⟨69, ⟨(.type "tuple"), none, (.seq #[] 0), #[]⟩⟩,
  ⟨71, ⟨(.type "code"), none, (.fields #[(.str "_buffer" 258), (.str "_buffer" 259), (.str "/claim/cut.py" 260), (.int 28 0), (.int 1 0), (.int 0 0), (.int 0 0), (.int 3 0), (.ref 66), (.bool true), (.int 181 0), (.ref 67), .none, (.ref 68), (.ref 69), (.ref 70), (.int 263 0), (.int 28 0), (.str "/claim/cut.py" 264)]), #[]⟩⟩,
  ⟨72, ⟨(.type "function"), none, (.func ⟨"_buffer", "_buffer", a5, (.stmts b5), s5, 3, [], .none, .none, .none, (.str "binascii" 256), none, (.ref 71), .none, 0⟩), #[]⟩⟩,
  ⟨73, ⟨(.type "tuple"), none, (.seq #[] 0), #[]⟩⟩,
  ⟨75, ⟨(.type "tuple"), none, (.seq #[(.str "x" 269), (.str "t" 270)] 0), #[]⟩⟩,
  ⟨76, ⟨(.type "tuple"), none, (.seq #[] 0), #[]⟩⟩,
  ⟨78, ⟨(.type "code"), none, (.fields #[(.str "_truth" 266), (.str "_truth" 267), (.str "/claim/cut.py" 268), (.int 35 0), (.int 1 0), (.int 0 0), (.int 0 0), (.int 3 0), (.ref 73), (.bool true), (.int 181 0), (.ref 74), .none, (.ref 75), (.ref 76), (.ref 77), (.int 271 0), (.int 35 0), (.str "/claim/cut.py" 272)]), #[]⟩⟩,
  ⟨79, ⟨(.type "function"), none, (.func ⟨"_truth", "_truth", a6, (.stmts b6), s6, 3, [], .none, .none, .none, (.str "binascii" 256), none, (.ref 78), .none, 0⟩), #[]⟩⟩,
  ⟨80, ⟨(.type "dict"), none, (.dict #[⟨(PyData.keyHash P "newline"), (.str "newline" 276), (.bool true)⟩] 1), #[]⟩⟩,
  ⟨81, ⟨(.type "tuple"), none, (.seq #[] 0), #[]⟩⟩,
  ⟨83, ⟨(.type "tuple"), none, (.seq #[(.str "data" 280), (.str "newline" 281), (.str "bin_data" 282), (.str "out" 283), (.str "leftbits" 284), (.str "leftchar" 285), (.str "b" 286)] 0), #[]⟩⟩,
  ⟨84, ⟨(.type "tuple"), none, (.seq #[] 0), #[]⟩⟩,
  ⟨86, ⟨(.type "code"), none, (.fields #[(.str "b2a_base64" 277), (.str "b2a_base64" 278), (.str "/claim/cut.py" 279), (.int 41 0), (.int 1 0), (.int 1 0), (.int 1 0), (.int 3 0), (.ref 81), (.bool true), (.int 181 0), (.ref 82), .none, (.ref 83), (.ref 84), (.ref 85), (.int 287 0), (.int 41 0), (.str "/claim/cut.py" 288)]), #[]⟩⟩,
  ⟨87, ⟨(.type "function"), none, (.func ⟨"b2a_base64", "b2a_base64", a7, (.stmts b7), s7, 3, [], .none, (.ref 80), .none, (.str "binascii" 256), none, (.ref 86), .none, 0⟩), #[]⟩⟩,
  ⟨88, ⟨(.type "tuple"), none, (.seq #[.none] 0), #[]⟩⟩,
  ⟨89, ⟨(.type "tuple"), none, (.seq #[] 0), #[]⟩⟩,
  ⟨91, ⟨(.type "tuple"), none, (.seq #[(.str "s" 295), (.str "altchars" 296), (.str "encoded" 297)] 0), #[]⟩⟩,
  ⟨92, ⟨(.type "tuple"), none, (.seq #[] 0), #[]⟩⟩,
  ⟨94, ⟨(.type "code"), none, (.fields #[(.str "b64encode" 292), (.str "b64encode" 293), (.str "/claim/cut.py" 294), (.int 64 0), (.int 2 0), (.int 0 0), (.int 0 0), (.int 3 0), (.ref 89), (.bool true), (.int 181 0), (.ref 90), .none, (.ref 91), (.ref 92), (.ref 93), (.int 298 0), (.int 64 0), (.str "/claim/cut.py" 299)]), #[]⟩⟩,
  ⟨95, ⟨(.type "function"), none, (.func ⟨"b64encode", "b64encode", a8, (.stmts b8), s8, 3, [], (.ref 88), .none, .none, (.str "cpy313.base64" 290), none, (.ref 94), .none, 0⟩), #[]⟩⟩,
  ⟨96, ⟨(.type "tuple"), none, (.seq #[] 0), #[]⟩⟩,
  ⟨98, ⟨(.type "tuple"), none, (.seq #[(.str "mycmp" 306), (.str "K" 307)] 0), #[]⟩⟩,
  ⟨99, ⟨(.type "tuple"), none, (.seq #[(.str "mycmp" 308)] 0), #[]⟩⟩,
  ⟨101, ⟨(.type "code"), none, (.fields #[(.str "cmp_to_key" 303), (.str "cmp_to_key" 304), (.str "/claim/cut.py" 305), (.int 71 0), (.int 1 0), (.int 0 0), (.int 0 0), (.int 3 0), (.ref 96), (.bool true), (.int 181 0), (.ref 97), .none, (.ref 98), (.ref 99), (.ref 100), (.int 309 0), (.int 71 0), (.str "/claim/cut.py" 310)]), #[]⟩⟩,
  ⟨102, ⟨(.type "function"), none, (.func ⟨"cmp_to_key", "cmp_to_key", a9, (.stmts b9), s9, 3, [], .none, .none, .none, (.str "cpy313.functools" 301), none, (.ref 101), .none, 0⟩), #[]⟩⟩,
  ⟨103, ⟨(.type "object"), none, .plain, #[]⟩⟩,
  ⟨104, ⟨(.type "tuple"), none, (.seq #[(.ref 103)] 0), #[]⟩⟩,
  ⟨105, ⟨(.type "tuple"), none, (.seq #[] 0), #[]⟩⟩,
  ⟨107, ⟨(.type "tuple"), none, (.seq #[(.str "function" 316), (.str "sequence" 317), (.str "initial" 318), (.str "it" 319), (.str "value" 320), (.str "element" 321)] 0), #[]⟩⟩,
  ⟨108, ⟨(.type "tuple"), none, (.seq #[] 0), #[]⟩⟩,
  ⟨110, ⟨(.type "code"), none, (.fields #[(.str "reduce" 313), (.str "reduce" 314), (.str "/claim/cut.py" 315), (.int 97 0), (.int 3 0), (.int 0 0), (.int 0 0), (.int 3 0), (.ref 105), (.bool true), (.int 181 0), (.ref 106), .none, (.ref 107), (.ref 108), (.ref 109), (.int 322 0), (.int 97 0), (.str "/claim/cut.py" 323)]), #[]⟩⟩,
  ⟨111, ⟨(.type "function"), none, (.func ⟨"reduce", "reduce", a10, (.stmts b10), s10, 3, [], (.ref 104), .none, .none, (.str "cpy313.functools" 301), none, (.ref 110), .none, 0⟩), #[]⟩⟩,
  ⟨112, ⟨(.type "tuple"), none, (.seq #[] 0), #[]⟩⟩,
  ⟨114, ⟨(.type "tuple"), none, (.seq #[(.str "number" 330), (.str "row" 331), (.str "mark" 332), (.str "place" 333)] 0), #[]⟩⟩,
  ⟨115, ⟨(.type "tuple"), none, (.seq #[] 0), #[]⟩⟩,
  ⟨117, ⟨(.type "code"), none, (.fields #[(.str "_law_row" 327), (.str "_law_row" 328), (.str "/claim/cut.py" 329), (.int 110 0), (.int 1 0), (.int 0 0), (.int 0 0), (.int 3 0), (.ref 112), (.bool true), (.int 181 0), (.ref 113), .none, (.ref 114), (.ref 115), (.ref 116), (.int 334 0), (.int 110 0), (.str "/claim/cut.py" 335)]), #[]⟩⟩,
  ⟨118, ⟨(.type "function"), none, (.func ⟨"_law_row", "_law_row", a11, (.stmts b11), s11, 3, [], .none, .none, .none, (.str "law_kt0005_01" 325), none, (.ref 117), .none, 0⟩), #[]⟩⟩,
  ⟨119, ⟨(.type "tuple"), none, (.seq #[] 0), #[]⟩⟩,
  ⟨122, ⟨(.type "code"), none, (.fields #[(.str "_law_shared" 337), (.str "_law_shared" 338), (.str "/claim/cut.py" 339), (.int 117 0), (.int 3 0), (.int 0 0), (.int 0 0), (.int 3 0), (.ref 119), (.bool true), (.int 181 0), (.ref 120), .none, .none, .none, (.ref 121), (.int 340 0), (.int 117 0), (.str "/claim/cut.py" 341)]), #[]⟩⟩,
  ⟨123, ⟨(.type "function"), none, (.func ⟨"_law_shared", "_law_shared", a12, (.stmts b12), s12, 3, [], .none, .none, .none, (.str "law_kt0005_01" 325), none, (.ref 122), .none, 0⟩), #[]⟩⟩,
  ⟨124, ⟨(.type "tuple"), none, (.seq #[] 0), #[]⟩⟩,
  ⟨126, ⟨(.type "tuple"), none, (.seq #[(.str "lacks" 346), (.str "order" 347), (.str "held" 348), (.str "mark" 349), (.str "wider" 350)] 0), #[]⟩⟩,
  ⟨127, ⟨(.type "tuple"), none, (.seq #[] 0), #[]⟩⟩,
  ⟨129, ⟨(.type "code"), none, (.fields #[(.str "_law_next" 343), (.str "_law_next" 344), (.str "/claim/cut.py" 345), (.int 119 0), (.int 3 0), (.int 0 0), (.int 0 0), (.int 3 0), (.ref 124), (.bool true), (.int 181 0), (.ref 125), .none, (.ref 126), (.ref 127), (.ref 128), (.int 351 0), (.int 119 0), (.str "/claim/cut.py" 352)]), #[]⟩⟩,
  ⟨130, ⟨(.type "function"), none, (.func ⟨"_law_next", "_law_next", a13, (.stmts b13), s13, 3, [], .none, .none, .none, (.str "law_kt0005_01" 325), none, (.ref 129), .none, 0⟩), #[]⟩⟩,
  ⟨131, ⟨(.type "tuple"), none, (.seq #[] 0), #[]⟩⟩,
  ⟨133, ⟨(.type "tuple"), none, (.seq #[(.str "values" 357), (.str "meets" 358), (.str "value" 359), (.str "meet" 360)] 0), #[]⟩⟩,
  ⟨134, ⟨(.type "tuple"), none, (.seq #[] 0), #[]⟩⟩,
  ⟨136, ⟨(.type "code"), none, (.fields #[(.str "_law_meets" 354), (.str "_law_meets" 355), (.str "/claim/cut.py" 356), (.int 128 0), (.int 1 0), (.int 0 0), (.int 0 0), (.int 3 0), (.ref 131), (.bool true), (.int 181 0), (.ref 132), .none, (.ref 133), (.ref 134), (.ref 135), (.int 361 0), (.int 128 0), (.str "/claim/cut.py" 362)]), #[]⟩⟩,
  ⟨137, ⟨(.type "function"), none, (.func ⟨"_law_meets", "_law_meets", a14, (.stmts b14), s14, 3, [], .none, .none, .none, (.str "law_kt0005_01" 325), none, (.ref 136), .none, 0⟩), #[]⟩⟩,
  ⟨138, ⟨(.type "tuple"), none, (.seq #[] 0), #[]⟩⟩,
  ⟨141, ⟨(.type "code"), none, (.fields #[(.str "law" 364), (.str "law" 365), (.str "/claim/cut.py" 366), (.int 135 0), (.int 1 0), (.int 0 0), (.int 0 0), (.int 3 0), (.ref 138), (.bool true), (.int 181 0), (.ref 139), .none, .none, .none, (.ref 140), (.int 367 0), (.int 135 0), (.str "/claim/cut.py" 368)]), #[]⟩⟩,
  ⟨142, ⟨(.type "function"), none, (.func ⟨"law", "law", a15, (.stmts b15), s15, 3, [], .none, .none, .none, (.str "law_kt0005_01" 325), none, (.ref 141), .none, 0⟩), #[]⟩⟩]
noncomputable def K : Params → Frag := K0 rfl rfl rfl rfl rfl rfl rfl rfl rfl rfl rfl rfl rfl rfl rfl rfl
noncomputable abbrev q0 {s0 s1 s2 s3 s4 s5 s6 s7 s8 s9 s10 s11 s12 s13 s14 s15 s16 s17 s18 s19 s20 s21 : Stmt} (_ : p0.main.body = [s0, s1, s2, s3, s4, s5, s6, s7, s8, s9, s10, s11, s12, s13, s14, s15, s16, s17, s18, s19, s20, s21]) : Program := { p0 with main := { p0.main with body := [s0, s2, s4, s6, s7, s8, s13, s14, s17, s18, s19, s20, s21] } }
noncomputable def q : Program := q0 rfl
noncomputable abbrev loose : List Str := ["filterfalse", "b2a_base64", "b64encode", "_initial_missing", "reduce"]
noncomputable abbrev as : List Addr := [2, 3, 6, 15, 17, 18, 20, 21, 29, 30, 32, 33, 35, 36, 37, 39, 40, 42, 43, 44, 46, 47, 49, 50, 51, 53, 54, 55, 56, 59, 61, 62, 64, 65, 66, 68, 69, 71, 72, 73, 75, 76, 78, 79, 80, 81, 83, 84, 86, 87, 88, 89, 91, 92, 94, 95, 96, 98, 99, 101, 102, 103, 104, 105, 107, 108, 110, 111, 112, 114, 115, 117, 118, 119, 122, 123, 124, 126, 127, 129, 130, 131, 133, 134, 136, 137, 138, 141, 142]
theorem Ke : ∀ P, as = (K P).map (·.1) := fun _ => by kernel_rfl
theorem left : LeftO p0 q loose (fun s => xlAt q [] s && recOk (OpenLaw.row PySem.Challenge.rw_kt0005_01).toRowW.records s) (kmHook K as Ke [97, 139]).obs (kmHook K as Ke [97, 139]).val 1754 := by
  intro w
  delta openEnds topFrom fencedOpening
  rw [Fast.te14364793385576792824, Fast.te4187177175401517315, Fast.te5923862056798008813, Fast.te14082659384304107361, Fast.te10274390034422433532, Fast.te1435165496053646825, Fast.te14289696077712309145]
  kernel_rfl
theorem said : PySem.Challenge.rw_kt0005_01.wellSaid = true := by
  rw [Fast.te9446332074065402090]
  delta Fast.tw9446332074065402090 Fast.tw17960256430627541270 Fast.tw2436336058641802641 Fast.tw12908688711261696721
  repeat' with_reducible refine PySem.W.look_both ?_ ?_
  all_goals decide +kernel
end Mine
end

section
open PySem PySem.W PyProof.Rows
set_option maxRecDepth 100000
set_option maxHeartbeats 4000000
namespace Mine
open PySem PySem.Spec PySem.Calls PyProof.Rows PySem.W
theorem dl1 {a b c r : Nat} (h : a + c < r) (e : Nat.ble b c = true) : a + b < r := Nat.lt_of_le_of_lt (Nat.add_le_add_left (Nat.le_of_ble_eq_true e) a) h
theorem dl0 {a c r : Nat} (h : a + c < r) : a < r := Nat.lt_of_le_of_lt (Nat.le_add_right a c) h
theorem dl2 {a x b c r : Nat} (h : a + c < r) (e : Nat.ble (x + b) c = true) : a + x + b < r := by rw [Nat.add_assoc]; exact dl1 h e
theorem wpXS {M : Model} {A : Around} {body : List Stmt} {env : Env} {Q : Flow → Shared → Prop} {E : Value → Shared → Prop} {s : Shared} (h : let env' := env; let A' := A; let E' := E; let Q' := Q; let s' := s; wpAny M A' (execs body env') Q' E' s') : wpAny M A (execs body env) Q E s := h
theorem wpQS {α : Type} {M : Model} {A : Around} {x : Sem α} {Q : α → Shared → Prop} {E : Value → Shared → Prop} {s : Shared} (h : let Q' := Q; let s' := s; wpAny M A x Q' E s') : wpAny M A x Q E s := h
theorem ne_of {h : Heap} {a b : Addr} {o : Obj} (e : h.get? a = none) (e' : h.get? b = some o) : a ≠ b := fun q => by rw [q, e'] at e; cases e
theorem wpX {M : Model} {A : Around} {body : List Stmt} {env : Env} {Q : Flow → Shared → Prop} {E : Value → Shared → Prop} {s : Shared} (h : let env' := env; let A' := A; let E' := E; let Q' := Q; wpAny M A' (execs body env') Q' E' s) : wpAny M A (execs body env) Q E s := h
theorem wpQ {α : Type} {M : Model} {A : Around} {x : Sem α} {Q : α → Shared → Prop} {E : Value → Shared → Prop} {s : Shared} (h : let Q' := Q; wpAny M A x Q' E s) : wpAny M A x Q E s := h
universe u1 u2 u3 u4 u5 u6 u7 u8 u9 u10
inductive Ex2 {α : Sort u1} {β : Sort u2} (P : α → β → Prop) : Prop
  | mk (a : α) (b : β) (h : P a b) : Ex2 P
inductive Ex3 {α : Sort u1} {β : Sort u2} {γ : Sort u3} (P : α → β → γ → Prop) : Prop
  | mk (a : α) (b : β) (c : γ) (h : P a b c) : Ex3 P
inductive Ex4 {α : Sort u1} {β : Sort u2} {γ : Sort u3} {δ : Sort u4} (P : α → β → γ → δ → Prop) : Prop
  | mk (a : α) (b : β) (c : γ) (d : δ) (h : P a b c d) : Ex4 P
inductive Ex5 {α : Sort u1} {β : Sort u2} {γ : Sort u3} {δ : Sort u4} {ε : Sort u5} (P : α → β → γ → δ → ε → Prop) : Prop
  | mk (a : α) (b : β) (c : γ) (d : δ) (e : ε) (h : P a b c d e) : Ex5 P
inductive Ex6 {α : Sort u1} {β : Sort u2} {γ : Sort u3} {δ : Sort u4} {ε : Sort u5} {ζ : Sort u6} (P : α → β → γ → δ → ε → ζ → Prop) : Prop
  | mk (a : α) (b : β) (c : γ) (d : δ) (e : ε) (f : ζ) (h : P a b c d e f) : Ex6 P
inductive Ex7 {α : Sort u1} {β : Sort u2} {γ : Sort u3} {δ : Sort u4} {ε : Sort u5} {ζ : Sort u6} {η : Sort u7} (P : α → β → γ → δ → ε → ζ → η → Prop) : Prop
  | mk (a : α) (b : β) (c : γ) (d : δ) (e : ε) (f : ζ) (g : η) (h : P a b c d e f g) : Ex7 P
inductive Ex8 {α : Sort u1} {β : Sort u2} {γ : Sort u3} {δ : Sort u4} {ε : Sort u5} {ζ : Sort u6} {η : Sort u7} {θ : Sort u8} (P : α → β → γ → δ → ε → ζ → η → θ → Prop) : Prop
  | mk (a : α) (b : β) (c : γ) (d : δ) (e : ε) (f : ζ) (g : η) (h : θ) (h : P a b c d e f g h) : Ex8 P
inductive Ex9 {α : Sort u1} {β : Sort u2} {γ : Sort u3} {δ : Sort u4} {ε : Sort u5} {ζ : Sort u6} {η : Sort u7} {θ : Sort u8} {ι : Sort u9} (P : α → β → γ → δ → ε → ζ → η → θ → ι → Prop) : Prop
  | mk (a : α) (b : β) (c : γ) (d : δ) (e : ε) (f : ζ) (g : η) (h : θ) (i : ι) (h : P a b c d e f g h i) : Ex9 P
inductive Ex10 {α : Sort u1} {β : Sort u2} {γ : Sort u3} {δ : Sort u4} {ε : Sort u5} {ζ : Sort u6} {η : Sort u7} {θ : Sort u8} {ι : Sort u9} {κ : Sort u10} (P : α → β → γ → δ → ε → ζ → η → θ → ι → κ → Prop) : Prop
  | mk (a : α) (b : β) (c : γ) (d : δ) (e : ε) (f : ζ) (g : η) (h : θ) (i : ι) (j : κ) (h : P a b c d e f g h i j) : Ex10 P

/-- the written part of the top -/
noncomputable abbrev TopF : Params → Frag := Mine.K

/-- the addresses of the frames that are open -/
noncomputable def fr (outer : List Env) : List Addr := outer.filterMap (·.frame)

/-- what a call leaves as it was: all but X; of the open frames all but their slots -/
structure Ret (X fs : List Addr) (h h' : Heap) : Prop where
  keep : ∀ b o, b ∉ X → b ∉ fs → h.get? b = some o → h'.get? b = some o
  slots : ∀ b o, b ∉ X → h.get? b = some o → (∀ vs, o.data ≠ .fields vs) → ∃ sl, h'.get? b = some { o with slots := sl }

theorem Ret.of_stays {X fs : List Addr} {h h' : Heap} (k : h.StaysIn h') : Ret X fs h h' := ⟨fun b o _ _ e => k b o e, fun b o _ e hn => Heap.UpToSlots.of_keeps k b o e hn⟩
theorem Ret.refl {X fs : List Addr} {h : Heap} : Ret X fs h h := .of_stays fun _ _ e => e
theorem Ret.trans {X fs : List Addr} {h₁ h₂ h₃ : Heap} (x : Ret X fs h₁ h₂) (y : Ret X fs h₂ h₃) : Ret X fs h₁ h₃ :=
  ⟨fun b o n n' e => y.keep b o n n' (x.keep b o n n' e), fun b o n e hn => by
    obtain ⟨sl, e₁⟩ := x.slots b o n e hn
    obtain ⟨sl', e₂⟩ := y.slots b _ n e₁ hn
    exact ⟨sl', e₂⟩⟩
theorem Ret.wide {X Y fs : List Addr} {h h' : Heap} (x : Ret X fs h h') (s : ∀ a ∈ X, a ∈ Y) : Ret Y fs h h' :=
  ⟨fun b o n n' e => x.keep b o (fun m => n (s b m)) n' e, fun b o n e hn => x.slots b o (fun m => n (s b m)) e hn⟩
theorem Ret.of_but {X fs : List Addr} {a : Addr} {h h' : Heap} (k : Heap.ExtBut a h h') (m : a ∈ X) : Ret X fs h h' :=
  ⟨fun b o n _ e => k b o (fun q => n (q ▸ m)) e, fun b o n e _ => ⟨o.slots, k b o (fun q => n (q ▸ m)) e⟩⟩
/-- what is fresh may be taken off the list -/
theorem Ret.less {X Y fs : List Addr} {h h' : Heap} (x : Ret X fs h h') (s : ∀ a ∈ X, a ∈ Y ∨ h.get? a = none) : Ret Y fs h h' := by
  have q : ∀ b o, b ∉ Y → h.get? b = some o → b ∉ X := fun b o n e m => by
    rcases s b m with m | z
    · exact n m
    · rw [z] at e; cases e
  exact ⟨fun b o n n' e => x.keep b o (q b o n e) n' e, fun b o n e hn => x.slots b o (q b o n e) e hn⟩

theorem fr_cons {env : Env} {outer : List Env} {L : Addr} (hf : env.frame = some L) : fr (env :: outer) = L :: fr outer := by
  simp [fr, hf]

theorem Ret.leave {X fs : List Addr} {h h₁ h' : Heap} {L : Addr} (hL : L = h.objs.size) (k : h.StaysIn h₁) (r : Ret (L :: X) (L :: fs) h₁ h') : Ret X fs h h' := by
  have nL : ∀ b o, h.get? b = some o → b ≠ L := fun b o e q => Nat.lt_irrefl _ (hL ▸ q ▸ Heap.lt_size e)
  have q : ∀ b o (Y : List Addr), b ∉ Y → h.get? b = some o → b ∉ L :: Y := fun b o Y n e m => by
    rcases List.mem_cons.mp m with q | m
    · exact nL b o e q
    · exact n m
  exact ⟨fun b o n n' e => r.keep b o (q b o _ n e) (q b o _ n' e) (k b o e), fun b o n e hn => r.slots b o (q b o _ n e) (k b o e) hn⟩

theorem fr_there {hb h : Heap} {outer : List Env} (f : h.FunFrames hb outer) {a : Addr} (m : a ∈ fr outer) : hb.get? a = none ∧ ∃ o, h.get? a = some o ∧ ∀ vs, o.data ≠ .fields vs := by
  obtain ⟨h1, o, h2, h3⟩ := f.mem m
  exact ⟨h1, o, h2, h3⟩

theorem below_retX {X : List Addr} {A : Around} {hb h h' : Heap} {outer : List Env} (B : Below A hb outer h) (hX : ∀ a ∈ X, hb.get? a = none ∧ a ∉ fr outer) (r : Ret X (fr outer) h h') : Below A hb outer h' := by
  refine ⟨B.stack, fun b o e => r.keep b o (fun m => ?_) (fun m => ?_) (B.stays b o e), ?_⟩
  · rw [(hX b m).1] at e; cases e
  · rw [(fr_there B.frames m).1] at e; cases e
  · have go : ∀ {l : List Env}, (∀ a ∈ fr l, a ∈ fr outer) → h.FunFrames hb l → h'.FunFrames hb l := by
      intro l
      induction l with
      | nil => intro _ _; trivial
      | cons env l ih =>
        intro hs hl
        obtain ⟨hk, ⟨L, o, hf, hn, ho, hd⟩, hr⟩ := hl
        have hm : L ∈ fr outer := hs L (by rw [fr_cons hf]; exact .head _)
        obtain ⟨sl, e⟩ := r.slots L o (fun m => (hX L m).2 hm) ho hd
        exact ⟨hk, ⟨L, _, hf, hn, e, hd⟩, ih (fun a ha => hs a (by rw [fr_cons hf]; exact .tail _ ha)) hr⟩
    exact go (fun _ m => m) B.frames
theorem below_ret {A : Around} {hb h h' : Heap} {outer : List Env} (B : Below A hb outer h) (r : Ret [] (fr outer) h h') : Below A hb outer h' := below_retX B (fun _ m => absurd m List.not_mem_nil) r
theorem below_kept {A : Around} {hb h h' : Heap} {outer : List Env} (B : Below A hb outer h) (k : h.StaysIn h') : Below A hb outer h' := below_ret B (.of_stays k)

theorem funFrames_same {hb h h' : Heap} {L : Addr} (hs : Heap.SameBut L h h') (hn : ∃ o, h'.get? L = some o ∧ ∀ vs, o.data ≠ .fields vs) : ∀ {l : List Env}, h.FunFrames hb l → h'.FunFrames hb l
  | [], _ => trivial
  | env :: l, ⟨hk, ⟨L', o, hf, hn', ho, hd⟩, hr⟩ => by
    refine ⟨hk, ?_, funFrames_same hs hn hr⟩
    by_cases q : L' = L
    · subst q
      obtain ⟨o', ho', hd'⟩ := hn
      exact ⟨L', o', hf, hn', ho', hd'⟩
    · exact ⟨L', o, hf, hn', (hs.2 L' q).trans ho, hd⟩

/-- a store into a frame -/
theorem below_same {A : Around} {hb h h' : Heap} {outer : List Env} {L : Addr} {m : Str → Option Value} (B : Below A hb outer h) (hL : hb.get? L = none) (hs : Heap.SameBut L h h') (hn : h'.Ns L m) : Below A hb outer h' := by
  refine ⟨B.stack, fun b o e => (hs.2 b fun q => ?_).trans (B.stays b o e), funFrames_same hs ?_ B.frames⟩
  · rw [q, hL] at e; cases e
  · obtain ⟨o', es, ep, ho', hd', _⟩ := hn
    exact ⟨o', ho', fun vs q => by rw [hd'] at q; cases q⟩

/-- a new frame on the stack -/
theorem below_push {A : Around} {hb h h₁ : Heap} {outer : List Env} {env : Env} {m : Str → Option Value} {L : Addr} (B : Below A hb outer h) (hf : env.frame = some L) (hk : env.scope.kind ≠ .module) (hL : L = h.objs.size) (k : h.StaysIn h₁) (hn : h₁.Ns L m) :
    Below (A.deeper env) hb (env :: outer) h₁ := by
  refine ⟨Around.frames_deeper B.stack, fun b o e => k b o (B.stays b o e), hk, ?_, (below_kept B k).frames⟩
  obtain ⟨o', es, ep, ho', hd', _⟩ := hn
  refine ⟨L, o', hf, ?_, ho', fun vs q => by rw [hd'] at q; cases q⟩
  cases q : hb.get? L with
  | none => rfl
  | some o => exact absurd (hL ▸ Heap.lt_size (B.stays _ _ q)) (Nat.lt_irrefl _)

/-- what the calls find standing -/
structure Bs (w : World) (mg mb : Str → Option Value) (hb : Heap) : Prop where
  X : (TopF w.params).In hb
  g : hb.Ns mainGlobals mg
  b : hb.Ns builtinsNs mb
  lim : hb.NoLimit
  blt : ∀ x : Str, x ≠ "__name__" → mb x = bootBuiltins x

section
variable {w : World} {mg mb : Str → Option Value} {hb : Heap} {prog : Program} {A : Around} {outer : List Env} {s : Shared}

/-- a def of the top is entered -/
theorem enter {f : Addr} {args : List Value} {binds : List (Str × Value)} {oc : Value} {od : Option Addr} {osl : Array (Option Value)} {name qual : Str} {params : Arguments} {body : List Stmt} {scope : Scope} {cl : List (Str × Addr)} {dV kV doc pm cdv ct : Value} {an : Option Addr}
    {Q : Value → Shared → Prop} {E : Value → Shared → Prop}
    (H : Bs w mg mb hb) (B : Below A hb outer s.heap) (hroom : A.depth < recursionLimit)
    (ho : (TopF w.params).lookup f = some ⟨oc, od, .func (fnX name qual params body scope cl dV kV doc pm an cdv ct), osl⟩)
    (hcd : codeIn (TopF w.params) cdv qual = true)
    (hbind : BindsTo s (fnX name qual params body scope cl dV kV doc pm an cdv ct) ⟨args, []⟩ binds) (hloc : ∀ y ∈ binds, scope.names.lookup y.1 = some .local)
    (hcell : ∀ x ∈ scope.names, x.2 ≠ .cell)
    (h : ∀ L h₁, L = s.heap.objs.size → h₁.Ns L (fun y => binds.reverse.lookup y) → s.heap.StaysIn h₁ → Below (A.deeper (envX qual scope L f cdv cl)) hb (envX qual scope L f cdv cl :: outer) h₁ →
      wpAny (model prog w) (A.deeper (envX qual scope L f cdv cl)) (execs body (envX qual scope L f cdv cl))
        (fun fl s' => Q (match fl with | .ret v => v | _ => .none) s')
        (fun e s' => wpAny (model prog w) (A.deeper (envX qual scope L f cdv cl)) (leaving (envX qual scope L f cdv cl) e) (fun _ s'' => E e s'') (fun e' s'' => E e' s'') s')
        { s with heap := h₁, toks := s.toks + binds.length })
    (hco : scope.isCoroutine = false := by rfl) (hgen : scope.isGenerator = false := by rfl) (hk : scope.kind = .function := by rfl) :
    wpAny (model prog w) A (call (.ref f) args) Q E s := by
  refine wpAny_call (codeAny_call_def (fd := fnX name qual params body scope cl dV kV doc pm an cdv ct) (body := body) (binds := binds) hroom (B.stays _ _ (H.X _ _ ho)) rfl (H.lim.keeps B.stays) (codeRec_of (H.X.keeps B.stays) hcd) rfl hbind hcell hloc (fun h₁ hns hk₁ => ?_) hco hgen hk)
  exact h _ h₁ rfl hns hk₁ (below_push B rfl (by show scope.kind ≠ _; rw [hk]; decide) rfl hk₁ hns)

variable {cn : Str} {cs : Scope} {L a : Addr} {ccd : Value} {cl : List (Str × Addr)} {x : Str} {pos : Pos} {v : Value} {Q : Value → Shared → Prop} {E : Value → Shared → Prop} {M : Model} {m : Str → Option Value}
theorem nL (hn : s.heap.Ns L m) (hv : m x = some v) (h : Q v s)
    (hk : cs.kind = .function := by rfl) (hx : (envX cn cs L a ccd cl).kindOf x = some .local := by rfl) (hd : (x == ("__debug__" : Str)) = false := by decide) :
    wpAny M A (eval (.Name x pos) (envX cn cs L a ccd cl)) Q E s := wpAny_Name (wpAny_loadName_local hk hx hn hv h) hd
theorem nG (H : Bs w mg mb hb) (k : hb.StaysIn s.heap) (e : nsIn (TopF w.params) mainGlobals x = some (some v)) (h : Q v s)
    (hk : cs.kind = .function := by rfl) (hx : (envX cn cs L a ccd cl).kindOf x = some .globalImplicit := by rfl) (hd : (x == ("__debug__" : Str)) = false := by decide) :
    wpAny M A (eval (.Name x pos) (envX cn cs L a ccd cl)) Q E s := Name_function_global hk hx (loadGlobal_global (env := envX cn cs L a ccd cl) (H.g.keeps k) (mg_of H.X H.g e) h) hd
theorem nB (H : Bs w mg mb hb) (k : hb.StaysIn s.heap) (e : nsIn (TopF w.params) mainGlobals x = some none) (hv : bootBuiltins x = some v) (h : Q v s) (hn : x ≠ "__name__" := by decide +kernel)
    (hk : cs.kind = .function := by rfl) (hx : (envX cn cs L a ccd cl).kindOf x = some .globalImplicit := by rfl) (hd : (x == ("__debug__" : Str)) = false := by decide) :
    wpAny M A (eval (.Name x pos) (envX cn cs L a ccd cl)) Q E s :=
  Name_function_global hk hx (loadGlobal_builtin (env := envX cn cs L a ccd cl) (H.g.keeps k) (mg_none_of H.X H.g e) (H.b.keeps k) ((H.blt x hn).trans hv) h) hd
theorem sL {Q : Unit → Shared → Prop} (hn : s.heap.Ns L m) 
    (h : ∀ h', h'.Ns L (fun y => if y = x then some v else m y) → Heap.SameBut L s.heap h' → Q () { s with heap := h', toks := s.toks + 1 })
    (hk : cs.kind = .function := by rfl) (hx : (envX cn cs L a ccd cl).kindOf x = some .local := by rfl) : wpAny M A (storeName (envX cn cs L a ccd cl) x v) Q E s :=
  wpAny_storeName_local hx hn h (by show (cs.kind == .class || (cs.kind == .module && L != mainGlobals)) = false; rw [hk]; rfl)
end
end Mine
end

local macro_rules | `(tactic| walk_at "m") => `(tactic| first | assumption | rfl | exact if_pos rfl | (refine (if_neg (by decide)).trans ?_; walk_at "m"))
local macro_rules | `(tactic| walk_at "o") => `(tactic| first | exact Mine.dl0 (by assumption) | exact Mine.dl1 (by assumption) rfl | exact Mine.dl2 (by assumption) rfl | omega)

section
open PySem PySem.W PyProof.Rows
set_option maxRecDepth 100000
set_option maxHeartbeats 4000000
namespace Mine
open PySem PySem.Spec PySem.Calls PyProof.Rows PySem.W

section
variable {w : World} {mg mb : Str → Option Value} {hb : Heap} {prog : Program} {A : Around} {outer : List Env} {s : Shared} {E : Value → Shared → Prop}

/-- next(it): an item -/
theorem next_item {it l : Addr} {i : Nat} {items : Array Value} {x : Value} {Q : Value → Shared → Prop} (hit : s.heap.IsListIter it l i) (hl : s.heap.IsList l items) (hx : items[i]? = some x)
    (hQ : ∀ h', h'.IsListIter it l (i + 1) → Heap.SameBut it s.heap h' → Q x { s with heap := h' }) : wpAny (model prog w) A (call (.builtin "next") [.ref it]) Q E s := by
  obtain ⟨o, ho, hc, hd⟩ := id hit
  obtain ⟨ol, hol, _, nl, hdl⟩ := hl
  refine call_function_entry (by decide +kernel) (by decide +kernel) kdk_entry_next (kdk_args_next _) ?_
  unfold Builtin.«next»
  refine wpAny_bind (m := someArgs "next" 1 2 _) (wpAny_of_eq (a := [Value.ref it]) (by first | rfl | kernel_rfl!) ?_)
  dsimp only
  refine wpAny_bind (wpAny_specialOf (name := Str.ofString "__next__") hit.typeIs slot_listiter_next.lookup ?_)
  refine wpAny_ite_split (fun hab => absurd hab (by decide)) (fun _ => ?_)
  refine wpAny_bind (wpAny_callSpecial?_slot (name := Str.ofString "__next__") hit.typeIs slot_listiter_next
    (wpAny_call_entry slot_listiter_next hit.typeIs entry_listiter_next ?_ (args_listiter_next _)))
  show wpAny _ _ (field (.ref it) 0 >>= _) _ _ s
  refine wpAny_bind (wpAny_field ho hd (x := .ref l) rfl ?_)
  show wpAny _ _ (if (Value.ref l == Value.none) = true then _ else _) _ _ s
  rw [if_neg (show ¬ ((Value.ref l == Value.none) = true) from Bool.false_ne_true)]
  show wpAny _ _ (field (.ref it) 1 >>= _) _ _ s
  refine wpAny_bind (wpAny_field ho hd (x := .int i 0) rfl ?_)
  show wpAny _ _ (seqItems? (.ref l) >>= _) _ _ s
  refine wpAny_bind (wpAny_seqItems hol hdl ?_)
  simp only [Int.toNat_natCast, hx]
  refine wpAny_bind (wpAny_setField ho hd (by simp) (wpAny_pure ⟨x, rfl, wpAny_pure ⟨_, rfl, hQ _ ?_ (Heap.SameBut.update ..)⟩⟩))
  exact ⟨_, Heap.get?_update_self _ ho (Obj.isFreed_of_fields (Obj.data_mapFields hd _)), (Obj.cls_mapFields ..).trans hc, by
    rw [Obj.data_mapFields hd]; simp [rawInt]⟩

/-- next(it): there is none -/
theorem next_end {it l : Addr} {i : Nat} {items : Array Value} {Q : Value → Shared → Prop} (hh : A.handled = none) (hit : s.heap.IsListIter it l i) (hl : s.heap.IsList l items) (hx : items[i]? = none)
    (hE : ∀ h₁ h' e, Heap.SameBut it s.heap h₁ → Heap.MadeExcOf h₁ h' e (.type "StopIteration") [] → E (.ref e) { s with heap := h' }) : wpAny (model prog w) A (call (.builtin "next") [.ref it]) Q E s := by
  obtain ⟨o, ho, hc, hd⟩ := id hit
  obtain ⟨ol, hol, _, nl, hdl⟩ := hl
  refine call_function_entry (by decide +kernel) (by decide +kernel) kdk_entry_next (kdk_args_next _) ?_
  unfold Builtin.«next»
  refine wpAny_bind (m := someArgs "next" 1 2 _) (wpAny_of_eq (a := [Value.ref it]) (by first | rfl | kernel_rfl!) ?_)
  dsimp only
  refine wpAny_bind (wpAny_specialOf (name := Str.ofString "__next__") hit.typeIs slot_listiter_next.lookup ?_)
  refine wpAny_ite_split (fun hab => absurd hab (by decide)) (fun _ => ?_)
  refine wpAny_bind (wpAny_callSpecial?_slot (name := Str.ofString "__next__") hit.typeIs slot_listiter_next
    (wpAny_call_entry slot_listiter_next hit.typeIs entry_listiter_next ?_ (args_listiter_next _)))
  show wpAny _ _ (field (.ref it) 0 >>= _) _ _ s
  refine wpAny_bind (wpAny_field ho hd (x := .ref l) rfl ?_)
  show wpAny _ _ (if (Value.ref l == Value.none) = true then _ else _) _ _ s
  rw [if_neg (show ¬ ((Value.ref l == Value.none) = true) from Bool.false_ne_true)]
  show wpAny _ _ (field (.ref it) 1 >>= _) _ _ s
  refine wpAny_bind (wpAny_field ho hd (x := .int i 0) rfl ?_)
  show wpAny _ _ (seqItems? (.ref l) >>= _) _ _ s
  refine wpAny_bind (wpAny_seqItems hol hdl ?_)
  simp only [Int.toNat_natCast, hx]
  refine wpAny_bind (wpAny_rule (wpAny_bind (wpAny_setField ho hd (by simp) ?_)))
  show wpAny _ _ (newExc (.type "StopIteration") [] >>= _) _ _ _
  refine wpAny_bind ?_
  simp only [newExc, newTuple]
  refine wpAny_bind (wpAny_newObj_type ?_ (by size_fits))
  refine wpAny_bind (m := firstArgMember _ _) (wpAny_of_eq (a := Value.none) (by first | rfl | (simp only [firstArgMember]; rfl)) ?_)
  refine wpAny_newObj_type ?_ (by size_fits)
  simp only [raiseNew]
  refine wpAny_bind (wpAny_handled ?_)
  rw [show A.in1.in1.handled = none from hh]
  refine wpAny_bind (wpAny_pure (wpAny_throw ?_))
  refine hE (s.heap.update it _) _ _ (Heap.SameBut.update ..) ⟨fun b o e => Heap.get?_push_of_some _ (Heap.get?_push_of_some _ e), Heap.get?_none_of_le (by rw [Heap.size_push]; walk_at "o"), (s.heap.update it _).objs.size, ?_, Heap.get?_none_of_le (Nat.le_refl _), ?_⟩
  · exact Heap.get?_push_size _ rfl
  · exact Heap.get?_push_of_some _ (Heap.get?_push_size _ rfl)
end
end Mine
end

section
open PySem PySem.W PyProof.Rows
set_option maxRecDepth 100000
set_option maxHeartbeats 4000000
namespace Mine
open PySem PySem.Spec PySem.Calls PyProof.Rows PySem.W

section
variable {M : Model} {A : Around} {outer : List Env} {s : Shared} {E : Value → Shared → Prop} {env : Env}

theorem evalArgs_pl {f : Value} {trees : List (Bool × Sem Value)} {Q : Args → Shared → Prop} (hp : trees.any (·.1) = false)
    (h : wpAny M A (spliced trees) (fun vs s' => Q ⟨vs, []⟩ s') E s) : wpAny M A (evalArgs f true trees []) Q E s := by
  cases trees with
  | nil =>
    unfold evalArgs
    show wpAny M A (spliced [] >>= _) Q E s
    refine wpAny_bind (wpAny_mono h (fun vs s' h' => ?_) fun _ _ x => x)
    exact wpAny_bind (wpAny_pure (wpAny_holding (wpAny_bind (wpAny_pure (wpAny_bind (wpAny_pure (wpAny_pure h')))))))
  | cons t r =>
    obtain ⟨b, x⟩ := t
    cases b with
    | false => exact evalArgs_plain h
    | true => simp at hp

/-- a call, its arguments by place -/
theorem callWith_of {pos : Pos} {f : Value} {first : List Value} {trees : List (Bool × Sem Value)} {Q : Value → Shared → Prop} (hp : trees.any (·.1) = false)
    (h : wpAny M A (spliced trees) (fun vs s₁ => (∃ kk, Looks M s₁.heap (keeperOf f) kk) ∧ wpAny M A (call f (first ++ vs)) Q E s₁) E s) :
    wpAny M A (callWith pos f first trees []) Q E s := by
  unfold callWith
  refine wpAny_bind (wpAny_holding (evalArgs_pl hp (wpAny_mono h (fun vs s₁ h₁ => wpAny_bind (wpAny_standAt ?_)) fun _ _ x => x)))
  obtain ⟨⟨kk, hk⟩, hc⟩ := h₁
  simp only [hp, List.any_nil, Bool.or_false]
  refine wpAny_bind (hk.here ?_)
  have fin' : wpAny M A (call f (first ++ vs)) (fun r s' => wpAny M A (do holding [r] point; pure r) Q E s') E s₁ :=
    wpAny_mono hc (fun r s₂ hr => wpAny_bind (wpAny_holding (wpAny_point (wpAny_pure hr)))) fun _ _ x => x
  cases kk
  · dsimp only
    split
    · exact wpAny_bind fin'
    · exact wpAny_bind (wpAny_keep fin')
  · dsimp only
    split
    · exact wpAny_bind fin'
    · exact wpAny_bind (wpAny_keep fin')
  · exact wpAny_bind fin'
  · exact wpAny_bind (wpAny_operate' fin')

theorem Call_of {func : Expr} {args : List Expr} {pos : Pos} {Q : Value → Shared → Prop} (hp : (backTo pos (starEach args env)).any (·.1) = false)
    (h : wpAny M A (eval func env) (fun f s₁ => wpAny M A (spliced (backTo pos (starEach args env))) (fun vs s₂ => (∃ kk, Looks M s₂.heap (keeperOf f) kk) ∧ wpAny M A (call f vs) Q E s₂) E s₁) E s)
    (he : eval (.Call func args [] pos) env = (eval func env >>= fun f => callWith pos f [] (backTo pos (starEach args env)) []) := by rfl) :
    wpAny M A (eval (.Call func args [] pos) env) Q E s := by
  rw [he]
  exact wpAny_bind (wpAny_mono h (fun f s₁ h₁ => callWith_of hp h₁) fun _ _ x => x)

theorem keeps_builtin {h : Heap} {id : String} : ∃ kk, Looks M h (keeperOf (.builtin id)) kk := ⟨.machine, Looks.of_pure rfl⟩
theorem keeps_type {h : Heap} {id : String} : ∃ kk, Looks M h (keeperOf (.type id)) kk := ⟨.machine, Looks.of_pure rfl⟩
theorem keeps_func {h : Heap} {a : Addr} {o : Obj} {fd : FuncData} (ho : h.get? a = some o) (hd : o.data = .func fd) : ∃ kk, Looks M h (keeperOf (.ref a)) kk := by
  refine ⟨.frame, fun A Q E s k q => ?_⟩
  unfold keeperOf
  refine wpAny_bind (wpAny_load (k _ _ ho) ?_)
  rw [hd]
  exact wpAny_pure q
theorem keeps_rec {h : Heap} {a : Addr} {o : Obj} {vs : Array Value} (ho : h.get? a = some o) (hd : o.data = .fields vs) (hc : (o.cls != .type "method") = true) : ∃ kk, Looks M h (keeperOf (.ref a)) kk := by
  refine ⟨if o.cls == .type "builtin_function_or_method" || o.cls == .type "method-wrapper" then .machine else .caller, fun A Q E s k q => ?_⟩
  unfold keeperOf
  refine wpAny_bind (wpAny_load (k _ _ ho) ?_)
  rw [hd]
  dsimp only
  rw [if_pos hc]
  exact wpAny_pure q

theorem sp0 {pos : Pos} {Q : List Value → Shared → Prop} (h : Q [] s) : wpAny M A (spliced (backTo pos (starEach [] env))) Q E s := Calls.spliced_nil h
theorem sp1 {e : Expr} {rest : List Expr} {pos : Pos} {Q : List Value → Shared → Prop}
    (h : wpAny M A (eval e env) (fun v s₁ => wpAny M A (spliced (backTo pos (starEach rest env))) (fun vs s₂ => Q (v :: vs) s₂) E s₁) E s)
    (he : starEach (e :: rest) env = (false, eval e env) :: starEach rest env := by rfl) : wpAny M A (spliced (backTo pos (starEach (e :: rest) env))) Q E s := by
  rw [he]; exact Calls.spliced_cons h

theorem Attr_of {value : Expr} {attr : Str} {pos : Pos} {Q : Value → Shared → Prop} {prog : Program} {w : World} (h : wpAny (model prog w) A (eval value env) (fun o s₁ => wpAny (model prog w) A (getAttr o attr true) Q E s₁) E s)
    (hb : attributeBase value attr env (eval value env) = eval value env := by rfl) :
    wpAny (model prog w) A (eval (.Attribute value attr pos) env) Q E s := by
  rw [arm_eval_Attribute, hb]
  refine wpAny_bind (wpAny_mono h (fun o s₁ h₁ => wpAny_bind (wpAny_standAt (wpAny_bind (wpAny_holding (wpAny_mono h₁ (fun r s₂ h₂ => ?_) fun _ _ y => y))))) fun _ _ y => y)
  exact wpAny_bind (wpAny_letTemporaryGo (wpAny_pure h₂))
end
end Mine
end

section
open PySem PySem.W PyProof.Rows
set_option maxRecDepth 100000
set_option maxHeartbeats 4000000
namespace Mine
open PySem PySem.Spec PySem.Calls PyProof.Rows PySem.W

noncomputable abbrev mwObj (sk : Addr) : Obj := { cls := .type "method-wrapper", data := .fields #[.builtin "list.__contains__", .ref sk] }
noncomputable abbrev ffObj (dx it mw : Addr) : Obj := { cls := .ref 54, dict := some dx, data := .plain, slots := #[some (.ref mw), some (.ref it)] }

section
variable {w : World} {mg mb : Str → Option Value} {hb : Heap} {prog : Program} {A : Around} {outer : List Env} {s : Shared} {E : Value → Shared → Prop}

/-- reading a slot of a filterfalse -/
theorem ff_get {x dx it mw p i : Addr} {name : Str} {v : Value} {Q : Value → Shared → Prop} {e : Bool} (X : (TopF w.params).In s.heap) (hx : s.heap.get? x = some (ffObj dx it mw)) (hd : s.heap.get? dx = some emptyDict)
    (hf : findObj (TopF w.params) 54 (some emptyDict) name = some (.bind (.builtin "member_descriptor.__get__") (.ref p))) (hp : slotIn (TopF w.params) p 54 = some i) (hv : ((ffObj dx it mw).slots[i]?).join = some v) (hh : handedIn v = true)
    (h : Q v { s with toks := s.toks + 1 }) : wpAny (model prog w) A (getAttr (.ref x) name e) Q E s := by
  have I : InstAt s.heap x (ffObj dx it mw) 54 (some emptyDict) := ⟨hx, rfl, rfl, hd⟩
  exact get_bind X I (by kernel_rfl) hf (by kernel_rfl) (wpAny_call (slot_get (s := { s with toks := s.toks + 1 }) X I hp hv (handed_on hh h)))

/-- list.__contains__ as a value, called -/
theorem mw_call {mw sk : Addr} {vs : List Value} {ns : List Int} {n : Int} {t : Tok} {Q : Value → Shared → Prop} (hm : s.heap.get? mw = some (mwObj sk)) (hl : s.heap.IsList sk vs.toArray) (hi : IntsAre vs ns)
    (h : Q (.bool (ns.any (· == n))) s) : wpAny (model prog w) A (call (.ref mw) [.int n t]) Q E s := by
  refine wpAny_call (codeAny_of_tree ?_)
  show wpAny _ _ (callAny (.ref mw) _) _ _ _
  refine nd_load hm ?_
  show wpAny _ _ (checkBoundCall "list.__contains__" ⟨[.ref sk, .int n t], []⟩ >>= fun _ => again (.builtin "list.__contains__" ⟨[.ref sk, .int n t], []⟩)) _ _ _
  refine wpAny_bind (wpAny_of_eq (a := ()) (by kernel_rfl) ?_)
  refine wpAny_pure ⟨Code.quiet_builtin _ (by decide +kernel), codeAny_builtin entry_list_contains ?_⟩
  obtain ⟨⟨cls, dd, data, sl⟩, ho, hc, nn, hd⟩ := id hl
  simp only at hc hd
  subst hc hd
  rw [Around.under_plainId (by decide +kernel)]
  refine SeqInW.list_containsW sk vs.toArray nn dd sl (.int n t) (isInt n) (fun y hy => eq_isInt n t hi y (by simpa using hy)) prog w A _ s ⟨ho, ?_⟩
  show Q _ _
  rw [← Array.any_toList, show vs.toArray.toList = vs from rfl, any_isInt n hi]
  exact h

theorem ints_get {vs : List Value} {ns : List Int} (h : IntsAre vs ns) : ∀ {j : Nat} {n : Int}, ns[j]? = some n → ∃ t, vs[j]? = some (.int n t) := by
  induction h with
  | nil => intro j n q; simp at q
  | cons n t _ ih =>
    intro j m q
    cases j with
    | zero => simp at q; subst q; exact ⟨t, rfl⟩
    | succ j => simpa using ih (by simpa using q)
theorem ints_none {vs : List Value} {ns : List Int} (h : IntsAre vs ns) {j : Nat} (q : ns.length ≤ j) : vs[j]? = none := by
  have e := IntsAre.length h
  rw [List.getElem?_eq_none_iff]; omega

/-- what a filterfalse and its parts are -/
structure FF (fs : List Addr) (h : Heap) (x dx it mw l sk : Addr) (vs vk : List Value) : Prop where
  hx : h.get? x = some (ffObj dx it mw)
  hd : h.get? dx = some emptyDict
  hm : h.get? mw = some (mwObj sk)
  hl : h.IsList l vs.toArray
  hk : h.IsList sk vk.toArray
  nf : ∀ a ∈ [x, dx, mw, l, sk], a ∉ fs
  ni : ∀ a ∈ [x, dx, mw, l, sk], a ≠ it
  nit : it ∉ fs

theorem FF.by {fs : List Addr} {h h' : Heap} {x dx it mw l sk : Addr} {vs vk : List Value} (F : FF fs h x dx it mw l sk vs vk) (k : ∀ a ∈ [x, dx, mw, l, sk], ∀ o, h.get? a = some o → h'.get? a = some o) : FF fs h' x dx it mw l sk vs vk :=
  ⟨k _ (by simp) _ F.hx, k _ (by simp) _ F.hd, k _ (by simp) _ F.hm, F.hl.at (k _ (by simp)), F.hk.at (k _ (by simp)), F.nf, F.ni, F.nit⟩
theorem FF.ret {fs : List Addr} {h h' : Heap} {x dx it mw l sk : Addr} {vs vk : List Value} (F : FF fs h x dx it mw l sk vs vk) (r : Ret [it] fs h h') : FF fs h' x dx it mw l sk vs vk :=
  F.by fun a m o e => r.keep a o (by simpa using F.ni a m) (F.nf a m) e
theorem FF.under {fs : List Addr} {L : Addr} {h h' : Heap} {x dx it mw l sk : Addr} {vs vk : List Value} {i : Nat} (F : FF fs h x dx it mw l sk vs vk) (hi : h.IsListIter it l i) (hL : L = h.objs.size) (k : h.StaysIn h') : FF (L :: fs) h' x dx it mw l sk vs vk := by
  have F' := F.by fun a _ o e => k a o e
  have lt : ∀ a ∈ [x, dx, mw, l, sk], a < h.objs.size := by
    intro a m
    simp only [List.mem_cons, List.not_mem_nil, or_false] at m
    rcases m with rfl | rfl | rfl | rfl | rfl
    · exact Heap.lt_size F.hx
    · exact Heap.lt_size F.hd
    · exact Heap.lt_size F.hm
    · obtain ⟨_, e, _⟩ := F.hl; exact Heap.lt_size e
    · obtain ⟨_, e, _⟩ := F.hk; exact Heap.lt_size e
  refine ⟨F'.hx, F'.hd, F'.hm, F'.hl, F'.hk, fun a m => ?_, F.ni, ?_⟩
  · rw [List.mem_cons]
    rintro (q | q)
    · exact Nat.lt_irrefl _ (hL ▸ q ▸ lt a m)
    · exact F.nf a m q
  · rw [List.mem_cons]
    rintro (q | q)
    · obtain ⟨_, e, _⟩ := hi; exact Nat.lt_irrefl _ (hL ▸ q ▸ Heap.lt_size e)
    · exact F.nit q

/-- an exception made in the frame at hand leaves it -/
theorem leave_new {M : Model} {h : Heap} {env : Env} {L e : Addr} {cls : Value} {args : List Value} {Q : Unit → Shared → Prop} (B : Below A hb (env :: outer) h) (hf : env.frame = some L) (hx : Heap.MadeExcOf h s.heap e cls args)
    (hQ : ∀ h', Ret [] (fr (env :: outer)) h h' → (∃ o, h'.get? e = some o ∧ o.cls = cls) → Q () { s with heap := h' }) {A' : Around} (hA : A'.deeper env = A) : wpAny M (A'.deeper env) (leaving env (.ref e)) Q E s := by
  subst hA
  refine wpAny_leaves_madeW (base := hideAll h (fr (env :: outer))) B.stack hf (fun b o q => of_hideAll _ q) (funFrames_hide B.frames fun env' he a ha => List.mem_filterMap.mpr ⟨env', he, ha⟩) hx fun h' t x1 _ _ x4 => ?_
  refine hQ h' ⟨fun b o _ n' q => x1.1 b o (hideAll_get _ q n'), fun b o _ q hn => ?_⟩ x1.there
  exact x4 b o (hx.keeps b o q) hn

theorem ff_next {x dx it mw l sk : Addr} {vs vk : List Value} {ns ks : List Int} {i : Nat} {Q : Value → Shared → Prop}
    (H : Bs w mg mb hb) (B : Below A hb outer s.heap) (hd : A.depth < recursionLimit) (hh : A.handled = none)
    (F : FF (fr outer) s.heap x dx it mw l sk vs vk) (hi : IntsAre vs ns) (hk : IntsAre vk ks) (hit : s.heap.IsListIter it l i) (hib : hb.get? it = none)
    (hQ : ∀ pre n rest t h' tk, ns.drop i = pre ++ n :: rest → (∀ a ∈ pre, a ∈ ks) → n ∉ ks → h'.IsListIter it l (i + pre.length + 1) → Ret [it] (fr outer) s.heap h' → Q (.int n t) { s with heap := h', toks := tk })
    (hE : ∀ e h' tk, (∀ a ∈ ns.drop i, a ∈ ks) → (∃ o, h'.get? e = some o ∧ o.cls = .type "StopIteration") → Ret [it] (fr outer) s.heap h' → E (.ref e) { s with heap := h', toks := tk }) :
    wpAny (model prog w) A (call (.ref 50) [.ref x]) Q E s := by
  have ho : (TopF w.params).lookup 50 = some ⟨_, _, .func (fnX _ _ _ _ _ _ _ _ _ _ _ _ _), _⟩ := rfl
  refine enter (binds := [("self", .ref x)]) H B hd ho (by kernel_rfl) (BindsTo.of_eq rfl) (locs rfl) (by decide) fun L h₁ hL hn k B₁ => ?_
  clear ho
  have F₁ := F.under hit hL k
  have hLi : L ≠ it := fun q => F₁.nit (by rw [q]; exact .head _)
  have hbL : hb.get? L = none := (fr_there B₁.frames (.head _)).1
  have nL' : ∀ a ∈ [x, dx, mw, l, sk], a ≠ L := fun a m q => F₁.nf a m (by rw [q]; exact .head _)
  refine wpXS ?_
  intro env₀ A₀ E₀ Q₀ s₀
  refine wpAny_execs_cons (wpAny_Assign_Name (Attr_of (nL hn rfl (ff_get (p := 55) (i := 0) (v := .ref mw) (H.X.keeps B₁.stays) F₁.hx F₁.hd (by kernel_rfl) (by kernel_rfl) rfl rfl (sL hn (fun h₂ hn₂ hs₂ => ?_))))))
  refine wpXS ?_
  intro env₀ A₀ E₀ Q₀ s₀
  refine wpAny_execs_cons (wpAny_While ?_)
  -- the loop
  refine codeAny_whileLoop (fun m s' => Ex5 fun pre rest h' tk m' => s' = { s with heap := h', toks := tk } ∧ ns.drop i = pre ++ rest ∧ (∀ a ∈ pre, a ∈ ks) ∧ h'.IsListIter it l (i + pre.length) ∧ h'.Ns L m' ∧
      m' "func" = some (.ref mw) ∧ m' "self" = some (.ref x) ∧ Ret [L, it] (L :: fr outer) h₁ h' ∧ Below (A.deeper (envX _ _ L 50 _ _)) hb (envX _ _ L 50 _ _ :: outer) h' ∧ m = rest.length) ?_ (ns.drop i).length
    ⟨[], ns.drop i, h₂, _, _, rfl, rfl, by simp, ?_, hn₂, rfl, rfl, .of_but hs₂.extBut (.head _), below_same B₁ hbL hs₂ hn₂, rfl⟩
  · rintro m s' ⟨pre, rest, h', tk, m', rfl, hpr, hpre, hit', hn', hmf, hms, hr, B', rfl⟩
    have F' := F₁.by (h' := h') (fun a m o e => hr.keep a o (by simp [nL' a m, F₁.ni a m]) (F₁.nf a m) e)
    have X' := H.X.keeps B'.stays
    refine isTrue_plain (wpAny_pure (a := Value.bool true) (wpAny_truthy_bool ?_))
    rw [if_pos rfl]
    refine wpXS ?_
    intro env₀ A₀ E₀ Q₀ s₀
    refine wpAny_execs_cons (wpAny_Assign_Name (Call_of rfl (nB (v := .builtin "next") H B'.stays (by kernel_rfl) (by kernel_rfl) (sp1 (Attr_of (nL hn' hms (ff_get (p := 56) (i := 1) (v := .ref it) X' F'.hx F'.hd (by kernel_rfl) (by kernel_rfl) rfl rfl (sp0 ⟨keeps_builtin, ?_⟩))))))))
    cases rest with
    | nil =>
      rw [List.append_nil] at hpr
      have hlen := congrArg List.length hpr
      rw [List.length_drop] at hlen
      have hx : vs.toArray[i + pre.length]? = none := by
        have := ints_none hi (j := i + pre.length) (by walk_at "o")
        simpa using this
      refine next_end hh hit' F'.hl hx fun h₃ h₄ e hs₃ hmade => ?_
      refine PassesOwn.leaving _ _ ?_
      have hLn : h₃.Ns L m' := hn'.sameBut hs₃ hLi
      have r₃ : Ret [L, it] (L :: fr outer) h' h₃ := .of_but hs₃.extBut (by simp)
      have B₃ := below_retX (X := [it]) B' (fun a m => by obtain rfl := List.mem_singleton.mp m; exact ⟨hib, F'.nit⟩) (.of_but hs₃.extBut (by simp))
      refine leave_new (hb := hb) (outer := outer) B₃ rfl hmade (fun h₅ r₅ c₅ => ?_) rfl
      refine hE e h₅ _ (by rw [hpr]; exact hpre) c₅ ?_
      exact Ret.leave hL k ((hr.trans r₃).trans (r₅.wide (by simp)))
    | cons n rest =>
      have hget : ns[i + pre.length]? = some n := by
        rw [← List.getElem?_drop, hpr]; simp
      obtain ⟨t, hv⟩ := ints_get hi hget
      refine next_item hit' F'.hl (x := .int n t) (by simpa using hv) fun h₃ hit₃ hs₃ => ?_
      have hn₃ : h₃.Ns L m' := hn'.sameBut hs₃ hLi
      refine sL hn₃ fun h₄ hn₄ hs₄ => ?_
      have r₄ : Ret [L, it] (L :: fr outer) h₁ h₄ := (hr.trans (.of_but hs₃.extBut (by simp))).trans (.of_but hs₄.extBut (by simp))
      have F₄ := F₁.by (h' := h₄) (fun a m o e => r₄.keep a o (by simp [nL' a m, F₁.ni a m]) (F₁.nf a m) e)
      have B₃ := below_retX (X := [it]) B' (fun a m => by obtain rfl := List.mem_singleton.mp m; exact ⟨hib, F'.nit⟩) (.of_but hs₃.extBut (by simp))
      have B₄ := below_same B₃ hbL hs₄ hn₄
      have hit₄ : h₄.IsListIter it l (i + pre.length + 1) := hit₃.extBut hs₄.extBut (Ne.symm hLi)
      refine wpXS ?_
      intro env₀ A₀ E₀ Q₀ s₀
      refine wpAny_execs_cons (wpAny_If (isTrue_or (wpAny_isTrue_Compare1 (nL hn₄ (by walk_at "m") (wpAny_pure (a := Value.none) (is_ref_none (wpAny_truthy_bool ?_)))))))
      rw [if_neg (by decide)]
      refine isTrue_or (wpAny_isTrue_Compare1 (nL hn₄ (by walk_at "m") (nB (v := .type "bool") H B₄.stays (by kernel_rfl) (by kernel_rfl) (wpAny_is_other rfl (by simp) (wpAny_truthy_bool ?_)))))
      rw [if_neg (by decide)]
      refine isTrue_or_nil ?_
      rw [if_neg (by decide)]
      refine wpXS ?_
      intro env₀ A₀ E₀ Q₀ s₀
      refine wpAny_execs_cons (wpAny_If (isTrue_not (isTrue_plain (Call_of rfl (nL hn₄ (by walk_at "m") (sp1 (nL hn₄ (by walk_at "m") (sp0 ⟨keeps_rec F₄.hm rfl rfl, mw_call F₄.hm F₄.hk hk (wpAny_truthy_bool ?_)⟩))))))))
      by_cases hmem : n ∈ ks
      · have e1 : ks.any (· == n) = true := List.any_eq_true.mpr ⟨n, hmem, by simp⟩
        rw [e1, if_neg (by decide)]
        refine wpAny_execs_nil (wpAny_execs_nil (wpAny_execs_nil ?_))
        refine ⟨rest.length, by simp, pre ++ [n], rest, _, _, _, rfl, by simp [hpr], ?_, ?_, hn₄, ?_, ?_, r₄, B₄, rfl⟩
        · intro a ha
          rcases List.mem_append.mp ha with ha | ha
          · exact hpre a ha
          · rw [List.mem_singleton.mp ha]; exact hmem
        · simpa [Nat.add_assoc] using hit₄
        · walk_at "m"
        · walk_at "m"
      · have e1 : ks.any (· == n) = false := by
          rw [List.any_eq_false]
          intro a ha hq
          exact hmem (by rw [← beq_iff_eq.mp hq]; exact ha)
        rw [e1, if_pos (by decide)]
        refine wpXS ?_
        intro env₀ A₀ E₀ Q₀ s₀
        refine wpAny_execs_cons (wpAny_Return_some (nL hn₄ (by walk_at "m") ?_))
        exact hQ pre n rest t h₄ _ hpr hpre hmem hit₄ (Ret.leave hL k r₄)
  · exact (hit.at fun o e => k _ o e).extBut hs₂.extBut (Ne.symm hLi)
end
end Mine
end

section
open PySem PySem.W PyProof.Rows
set_option maxRecDepth 100000
set_option maxHeartbeats 4000000
namespace Mine
open PySem PySem.Spec PySem.Calls PyProof.Rows PySem.W

/-- a list object as the model makes it -/
noncomputable def LS (h : Heap) (a : Addr) (vs : List Value) : Prop := ∃ n, h.get? a = some { cls := .type "list", data := .seq vs.toArray n }
theorem LS.il {h : Heap} {a : Addr} {vs : List Value} (x : LS h a vs) : h.IsList a vs.toArray := by obtain ⟨n, e⟩ := x; exact ⟨_, e, rfl, n, rfl⟩
theorem LS.at {h h' : Heap} {a : Addr} {vs : List Value} (x : LS h a vs) (k : ∀ o, h.get? a = some o → h'.get? a = some o) : LS h' a vs := by obtain ⟨n, e⟩ := x; exact ⟨n, k _ e⟩
theorem LS.there {h : Heap} {a : Addr} {vs : List Value} (x : LS h a vs) : ∃ o, h.get? a = some o := by obtain ⟨n, e⟩ := x; exact ⟨_, e⟩

noncomputable def filt (ns ks : List Int) : List Int := ns.filter fun a => decide (a ∉ ks)
theorem filt_split {ks pre rest : List Int} {n : Int} (hp : ∀ a ∈ pre, a ∈ ks) (hn : n ∉ ks) : filt (pre ++ n :: rest) ks = n :: filt rest ks := by
  unfold filt
  rw [List.filter_append, List.filter_cons_of_pos (by simpa using hn)]
  have : pre.filter (fun a => decide (a ∉ ks)) = [] := List.filter_eq_nil_iff.mpr fun a ha => by simpa using hp a ha
  rw [this]; rfl
theorem filt_none {ks l : List Int} (hp : ∀ a ∈ l, a ∈ ks) : filt l ks = [] := List.filter_eq_nil_iff.mpr fun a ha => by simpa using hp a ha

theorem below_at {A A' : Around} {hb h : Heap} {outer : List Env} (B : Below A hb outer h) (e : A'.frames = A.frames) : Below A' hb outer h := ⟨e.trans B.stack, B.stays, B.frames⟩

theorem fresh_notin {hb h : Heap} {outer : List Env} (f : h.FunFrames hb outer) {a : Addr} (e : h.get? a = none) : a ∉ fr outer := fun m => by
  obtain ⟨_, o, q, _⟩ := fr_there f m
  rw [e] at q; cases q
theorem stays_none {hb h : Heap} (k : hb.StaysIn h) {a : Addr} (e : h.get? a = none) : hb.get? a = none := by
  cases q : hb.get? a with
  | none => rfl
  | some o => rw [k a o q] at e; cases e

section
variable {w : World} {mg mb : Str → Option Value} {hb : Heap} {prog : Program} {A : Around} {outer : List Env} {s : Shared} {E : Value → Shared → Prop}
variable {x dx it mw l sk : Addr} {vs vk : List Value} {ns ks : List Int}

theorem FF.inst {fs : List Addr} {h : Heap} (F : FF fs h x dx it mw l sk vs vk) : InstAt h x (ffObj dx it mw) 54 (some emptyDict) := ⟨F.hx, rfl, rfl, F.hd⟩

theorem ff_pyNext {i : Nat} {Q : Option Value → Shared → Prop}
    (H : Bs w mg mb hb) (B : Below A hb outer s.heap) (hd : A.depth < recursionLimit) (hh : A.handled = none)
    (F : FF (fr outer) s.heap x dx it mw l sk vs vk) (hi : IntsAre vs ns) (hk : IntsAre vk ks) (hit : s.heap.IsListIter it l i) (hib : hb.get? it = none)
    (hQ : ∀ pre n rest t h' tk, ns.drop i = pre ++ n :: rest → (∀ a ∈ pre, a ∈ ks) → n ∉ ks → h'.IsListIter it l (i + pre.length + 1) → Ret [it] (fr outer) s.heap h' → Q (some (.int n t)) { s with heap := h', toks := tk })
    (hE : ∀ h' tk, (∀ a ∈ ns.drop i, a ∈ ks) → Ret [it] (fr outer) s.heap h' → Q none { s with heap := h', toks := tk }) :
    wpAny (model prog w) A (pyNext (.ref x)) Q E s := by
  unfold pyNext
  refine wpAny_bind (wpAny_attempt (special_fn (H.X.keeps B.stays) F.inst (by kernel_rfl) (by kernel_rfl) (ff_next H B hd hh F hi hk hit hib (fun pre n rest t h' tk q1 q2 q3 q4 q5 => ?_) fun e h' tk q1 q2 q3 => ?_)))
  · exact wpAny_pure (hQ pre n rest t h' tk q1 q2 q3 q4 q5)
  · obtain ⟨o, ho, hc⟩ := q2
    refine wpAny_bind (wpAny_isInstance (T := "StopIteration") (b := true) ⟨o, ho, hc⟩ isSubtype_stop ?_)
    exact wpAny_pure (hE h' tk q1 q3)

theorem entry_extend_loop : entryFor table "list.extend.loop" = some Builtin.«list.extend.loop» := entryFor_of_tree (by kernel_rfl)

theorem ff_loop (H : Bs w mg mb hb) {S : Addr} {res : Value} (hi : IntsAre vs ns) (hk : IntsAre vk ks) (hib : hb.get? it = none) (hz : ns.length ≤ 1000) (hd : A.depth < recursionLimit) (hh : A.handled = none) :
    ∀ (k j : Nat) (s : Shared) (acc : List Value) (c : Nat) (R : Result → Shared → Prop), (ns.drop j).length = k → acc.length + k ≤ 1000 → Below A hb outer s.heap → FF (fr outer) s.heap x dx it mw l sk vs vk → s.heap.IsListIter it l j →
      s.heap.get? S = some { cls := .type "list", data := .seq acc.toArray c } → (∀ a ∈ [x, dx, mw, l, sk, it], a ≠ S) → S ∉ fr outer → hb.get? S = none →
      (∀ h' tk ad c', h'.get? S = some { cls := .type "list", data := .seq (acc ++ ad).toArray c' } → IntsAre ad (filt (ns.drop j) ks) → Ret [it, S] (fr outer) s.heap h' → R (.ok (.ret res)) { s with heap := h', toks := tk }) →
      codeAny (model prog w) A (.builtin "list.extend.loop" ⟨[.ref S, .ref x, res], []⟩) R s := by
  intro k
  induction k using Nat.strongRecOn with
  | ind k ih =>
    intro j s acc c R hlen hacc B F hit hS hne hSf hSb hR
    refine codeAny_builtin entry_extend_loop ?_
    rw [Around.under_plainId (by decide +kernel)]
    unfold Builtin.«list.extend.loop»
    refine wpAny_bind (ff_pyNext H (below_at B rfl) hd hh F hi hk hit hib (fun pre n rest t h' tk q1 q2 q3 q4 q5 => ?_) fun h' tk q1 q2 => ?_)
    · have hnS : S ∉ [it] := by simpa using (hne it (by simp)).symm
      have hS' := q5.keep S _ hnS hSf hS
      have hlen' : pre.length + (rest.length + 1) = k := by rw [← hlen, q1]; simp
      refine wpAny_bind (wpAny_updateSeq hS' rfl ?_ (by rw [List.size_toArray, sizeLine_eq]; walk_at "o") (by simp only [Array.size_push, List.size_toArray]; rw [sizeLine_eq]; walk_at "o"))
      have hS₂ := Heap.get?_update_self (Obj.mapSeq (·.push (Value.int n t))) hS' rfl
      have r₂ : Ret [it, S] (fr outer) s.heap (h'.update S (Obj.mapSeq (·.push (Value.int n t)))) := (q5.wide (by simp)).trans (.of_but (Heap.SameBut.update ..).extBut (by simp))
      have F₂ := F.by (h' := h'.update S (Obj.mapSeq (·.push (Value.int n t)))) fun a m o e => (Heap.SameBut.update h' S _).extBut a o (hne a (by simp at m ⊢; rcases m with h | h | h | h | h <;> simp [h])) (q5.keep a o (by simpa using F.ni a m) (F.nf a m) e)
      have hdrop : ns.drop (j + pre.length + 1) = rest := by
        have : (ns.drop j).drop (pre.length + 1) = rest := by rw [q1, List.drop_append]; simp
        rw [List.drop_drop] at this
        rw [← this, Nat.add_assoc]
      refine wpAny_pure ⟨plainId_quiet (by decide +kernel) _, ?_⟩
      obtain ⟨c₂, hc₂⟩ : ∃ c₂, (h'.update S (Obj.mapSeq (·.push (Value.int n t)))).get? S = some { cls := .type "list", data := .seq (acc ++ [Value.int n t]).toArray c₂ } := by
        rw [hS₂]; simp [Obj.mapSeq]
      refine ih rest.length (by walk_at "o") (j + pre.length + 1) _ (acc ++ [Value.int n t]) c₂ _ (by rw [hdrop]) (by simp; walk_at "o") (below_retX (X := [it, S]) B ?_ r₂) F₂ (q4.extBut (Heap.SameBut.update ..).extBut (hne it (by simp))) hc₂ hne hSf hSb ?_
      · intro a m
        simp only [List.mem_cons, List.not_mem_nil, or_false] at m
        rcases m with rfl | rfl
        · exact ⟨hib, F.nit⟩
        · exact ⟨hSb, hSf⟩
      · intro h₃ tk₃ ad c₃ e1 e2 e3
        rw [hdrop] at e2
        refine hR h₃ tk₃ (.int n t :: ad) c₃ (by simpa using e1) ?_ (r₂.trans e3)
        rw [q1, filt_split q2 q3]
        exact .cons n t e2
    · have hnS : S ∉ [it] := by simpa using (hne it (by simp)).symm
      refine wpAny_pure (hR h' tk [] c ?_ ?_ (q2.wide (by simp)))
      · simpa using q2.keep S _ hnS hSf hS
      · rw [filt_none q1]; exact .nil
end
end Mine
end

section
open PySem PySem.W PyProof.Rows
set_option maxRecDepth 100000
set_option maxHeartbeats 4000000
namespace Mine
open PySem PySem.Spec PySem.Calls PyProof.Rows PySem.W

section
variable {w : World} {mg mb : Str → Option Value} {hb : Heap} {prog : Program} {A : Around} {outer : List Env} {s : Shared} {E : Value → Shared → Prop}
variable {x dx it mw l sk : Addr} {vs vk : List Value} {ns ks : List Int}

/-- __iter__ hands back the thing itself -/
theorem ff_iter {Q : Value → Shared → Prop} (H : Bs w mg mb hb) (B : Below A hb outer s.heap) (hd : A.depth < recursionLimit)
    (h : ∀ h' tk, s.heap.StaysIn h' → Q (.ref x) { s with heap := h', toks := tk }) : wpAny (model prog w) A (call (.ref 43) [.ref x]) Q E s := by
  have ho : (TopF w.params).lookup 43 = some ⟨_, _, .func (fnX _ _ _ _ _ _ _ _ _ _ _ _ _), _⟩ := rfl
  refine enter (binds := [("self", .ref x)]) H B hd ho (by kernel_rfl) (BindsTo.of_eq rfl) (locs rfl) (by decide) fun L h₁ hL hn k B₁ => ?_
  exact wpAny_execs_cons (wpAny_Return_some (nL hn rfl (h _ _ k)))

theorem ff_pyIter {Q : Value → Shared → Prop} (H : Bs w mg mb hb) (B : Below A hb outer s.heap) (hd : A.depth < recursionLimit) (hx : s.heap.get? x = some (ffObj dx it mw)) (hdx : s.heap.get? dx = some emptyDict)
    (h : ∀ h' tk, s.heap.StaysIn h' → Q (.ref x) { s with heap := h', toks := tk }) : wpAny (model prog w) A (pyIter (.ref x)) Q E s := by
  have I : InstAt s.heap x (ffObj dx it mw) 54 (some emptyDict) := ⟨hx, rfl, rfl, hdx⟩
  have X := H.X.keeps B.stays
  have hs : findIn (TopF w.params) (.ref 54) "__iter__" = some (some (.ref 43)) := by kernel_rfl
  have hn : findIn (TopF w.params) (.ref 54) "__next__" = some (some (.ref 50)) := by kernel_rfl
  have hf : typeIn (TopF w.params) (.ref 43) = some (.type "function") := by kernel_rfl
  have fin : wpAny (model prog w) A (call (.ref 43) [.ref x] >>= fun v => pure (some v)) (fun r s' => Ex2 fun h' tk => r = some (.ref x) ∧ s.heap.StaysIn h' ∧ s' = { s with heap := h', toks := tk }) E s :=
    wpAny_bind (ff_iter H B hd fun h' tk k => wpAny_pure ⟨h', tk, rfl, k, rfl⟩)
  have one : ∀ refuse : Sem Value, wpAny (model prog w) A (callSpecialIfBoundUnlessNone? (.ref x) "__iter__" refuse) (fun r s' => Ex2 fun h' tk => r = some (.ref x) ∧ s.heap.StaysIn h' ∧ s' = { s with heap := h', toks := tk }) E s := by
    intro refuse
    simp only [callSpecialIfBoundUnlessNone?, bindSpecialIfBound?]
    refine wpAny_holding (wpAny_bind (wpAny_bind (wpAny_bind (I.type.here ((looks_findIn X hs).here ?_)))))
    refine wpAny_bind (wpAny_askSetting (wpAny_ite ?_))
    have fin2 : wpAny (model prog w) A (if (Value.ref 43 == Value.none) = true then (refuse >>= fun v => pure (some v)) else (call (.ref 43) [.ref x] >>= fun v => pure (some v))) (fun r s' => Ex2 fun h' tk => r = some (.ref x) ∧ s.heap.StaysIn h' ∧ s' = { s with heap := h', toks := tk }) E s := by
      rw [if_neg (show ¬ ((Value.ref 43 == Value.none) = true) from Bool.false_ne_true)]
      exact fin
    split
    · exact wpAny_bind ((bind_fn X _ hf).here (wpAny_pure (by exact fin2)))
    · exact wpAny_tryCatch (wpAny_bind ((bind_fn X _ hf).here (wpAny_pure (by exact fin2))))
  unfold pyIter
  refine wpAny_bind (wpAny_bind (I.type.here ((looks_findIn X hs).here ?_)))
  show wpAny _ A (callSpecialIfBoundUnlessNone? (.ref x) "__iter__" _ >>= _) Q E s
  refine wpAny_bind (wpAny_mono (one _) (fun r s' hr => ?_) fun _ _ z => z)
  obtain ⟨h', tk, rfl, k, rfl⟩ := hr
  have I' : InstAt h' x (ffObj dx it mw) 54 (some emptyDict) := ⟨k _ _ hx, rfl, rfl, k _ _ hdx⟩
  refine wpAny_bind (wpAny_bind (I'.type.here ((looks_findIn (X.keeps k) hn).here ?_)))
  exact wpAny_pure (h h' tk k)

/-- list(..) of it -/
theorem list_ff {Q : Value → Shared → Prop} {i : Nat} (H : Bs w mg mb hb) (B : Below A hb outer s.heap) (hd : A.depth < recursionLimit) (hh : A.handled = none)
    (FF0 : FF (fr outer) s.heap x dx it mw l sk vs vk) (hi : IntsAre vs ns) (hk : IntsAre vk ks) (hit : s.heap.IsListIter it l i) (hib : hb.get? it = none) (hz : ns.length ≤ 1000)
    (hQ : ∀ r vr h' tk, s.heap.get? r = none → LS h' r vr → IntsAre vr (filt (ns.drop i) ks) → Ret [it] (fr outer) s.heap h' → Q (.ref r) { s with heap := h', toks := tk }) :
    wpAny (model prog w) A (call (.type "list") [.ref x]) Q E s := by
  refine callType_codes (Q₁ := fun obj s₁ => obj = .ref s.heap.objs.size ∧ s₁ = { s with heap := s.heap.push { cls := .type "list", data := .seq #[] } }) F.called_list (F.typeCall_list_1 _) F.entry_list_init
    (code_list_new _ ⟨rfl, rfl⟩) fun obj s₁ h₁ => ?_
  obtain ⟨rfl, rfl⟩ := h₁
  have hSn : s.heap.get? s.heap.objs.size = none := Heap.get?_none_of_le (Nat.le_refl _)
  have hS : (s.heap.push { cls := .type "list", data := .seq #[] }).get? s.heap.objs.size = some { cls := .type "list", data := .seq #[] } := Heap.get?_push_size _ rfl
  generalize hSq : s.heap.objs.size = S at *
  refine ⟨⟨_, hS, rfl⟩, F.args_list_init_2 _ _, ?_⟩
  have hSf : S ∉ fr outer := fresh_notin B.frames hSn
  have hSb : hb.get? S = none := stays_none B.stays hSn
  have lt : ∀ a o, s.heap.get? a = some o → a ≠ S := fun a o e q => by rw [q, hSn] at e; cases e
  have hne : ∀ a ∈ [x, dx, mw, l, sk, it], a ≠ S := by
    intro a m
    simp only [List.mem_cons, List.not_mem_nil, or_false] at m
    rcases m with rfl | rfl | rfl | rfl | rfl | rfl
    · exact lt _ _ FF0.hx
    · exact lt _ _ FF0.hd
    · exact lt _ _ FF0.hm
    · obtain ⟨_, e, _⟩ := FF0.hl; exact lt _ _ e
    · obtain ⟨_, e, _⟩ := FF0.hk; exact lt _ _ e
    · obtain ⟨_, e, _⟩ := hit; exact lt _ _ e
  show wpAny _ A.in1.in1 (do let old ← Builtin.List.listItems (.ref S); Builtin.List.listUpdate (.ref S) (fun _ => #[]); letGo old.toList.reverse; Builtin.List.listExtendWith (.ref S) (.ref x) .none) _ _ _
  refine wpAny_bind ?_
  unfold Builtin.List.listItems
  refine wpAny_bind (wpAny_seqItems hS rfl (wpAny_pure ?_))
  show wpAny _ A.in1.in1 (updateSeq S (fun _ => #[]) >>= fun _ => letGo (#[] : Array Value).toList.reverse >>= fun _ => Builtin.List.listExtendWith (.ref S) (.ref x) .none) _ _ _
  refine wpAny_bind (wpAny_updateSeq hS rfl ?_)
  generalize hh₁ : s.heap.push { cls := .type "list", data := .seq #[] } = H₁ at *
  have k₁ : s.heap.StaysIn H₁ := fun b o e => hh₁ ▸ Heap.get?_push_of_some _ e
  have hS₂ := Heap.get?_update_self (Obj.mapSeq (fun _ => (#[] : Array Value))) hS rfl
  obtain ⟨c₂, hS₂⟩ : ∃ c₂, (H₁.update S (Obj.mapSeq (fun _ => (#[] : Array Value)))).get? S = some { cls := .type "list", data := .seq (#[] : Array Value) c₂ } := by
    rw [hS₂]; simp [Obj.mapSeq]
  have k₂ : s.heap.StaysIn (H₁.update S (Obj.mapSeq (fun _ => (#[] : Array Value)))) := fun b o e => (Heap.SameBut.update ..).extBut b o (lt b o e) (k₁ b o e)
  generalize H₁.update S (Obj.mapSeq (fun _ => (#[] : Array Value))) = H₂ at *
  refine wpAny_bind (wpAny_letGo ?_)
  -- extend
  unfold Builtin.List.listExtendWith
  have I₂ : InstAt H₂ x (ffObj dx it mw) 54 (some emptyDict) := ⟨k₂ _ _ FF0.hx, rfl, rfl, k₂ _ _ FF0.hd⟩
  have X₂ := H.X.keeps (fun b o e => k₂ b o (B.stays b o e))
  refine wpAny_bind (I₂.type.here ?_)
  have h1 : Builtin.List.listSameRef (.ref S) (.ref x) = false := by
    have := (hne x (by simp)).symm
    simpa [Builtin.List.listSameRef] using this
  have h2 : (Value.ref 54 == Value.type "list") = false := by decide
  have h3 : (Value.ref 54 == Value.type "tuple") = false := by decide
  simp only [h1, h2, h3, Bool.or_false, Bool.false_eq_true, if_false]
  refine wpAny_bind (ff_pyIter H (below_at (below_kept B k₂) rfl) hd (k₂ _ _ FF0.hx) (k₂ _ _ FF0.hd) fun h₃ tk₃ k₃ => ?_)
  have I₃ : InstAt h₃ x (ffObj dx it mw) 54 (some emptyDict) := ⟨k₃ _ _ (k₂ _ _ FF0.hx), rfl, rfl, k₃ _ _ (k₂ _ _ FF0.hd)⟩
  have X₃ := X₂.keeps k₃
  refine wpAny_bind (wpAny_holding ?_)
  unfold Builtin.List.listLengthHint
  have n1 : findIn (TopF w.params) (.ref 54) "__len__" = some none := by kernel_rfl
  have n2 : findIn (TopF w.params) (.ref 54) "__length_hint__" = some none := by kernel_rfl
  refine wpAny_bind (wpAny_bind (I₃.type.here ((looks_findIn X₃ n1).here ?_)))
  refine wpAny_bind (wpAny_bind (I₃.type.here ((looks_findIn X₃ n2).here ?_)))
  have hS₃ := k₃ _ _ hS₂
  refine wpAny_pure ?_
  show wpAny _ A.in1.in1 (rule "list.extend.makes-room" >>= fun _ => Builtin.List.listTouch (.ref S) >>= fun _ =>
    again (.builtin "list.extend.loop" ⟨[.ref S, .ref x, .none], []⟩)) _ _ _
  refine wpAny_bind (wpAny_rule ?_)
  refine wpAny_bind ?_
  show wpAny _ A.in1.in1 (updateSeq S (·.push .none) >>= fun _ => updateSeq S (·.pop)) _ _ _
  refine wpAny_bind (wpAny_updateSeq hS₃ rfl ?_)
  have hS₄ := Heap.get?_update_self (Obj.mapSeq (·.push Value.none)) hS₃ rfl
  refine wpAny_updateSeq hS₄ rfl ?_
  have hS₅ := Heap.get?_update_self (Obj.mapSeq (·.pop)) hS₄ rfl
  have hS₆ : ∃ c', ((h₃.update S (Obj.mapSeq (·.push Value.none))).update S (Obj.mapSeq (·.pop))).get? S = some { cls := .type "list", data := .seq ([] : List Value).toArray c' } := ⟨_, hS₅⟩
  have k₅ : s.heap.StaysIn ((h₃.update S (Obj.mapSeq (·.push Value.none))).update S (Obj.mapSeq (·.pop))) := fun b o e =>
    (Heap.SameBut.update ..).extBut b o (lt b o e) ((Heap.SameBut.update ..).extBut b o (lt b o e) (k₃ b o (k₂ b o e)))
  clear hS₅ hS₄
  generalize ((h₃.update S (Obj.mapSeq (·.push Value.none))).update S (Obj.mapSeq (·.pop))) = h₅ at *
  obtain ⟨c', hS₆⟩ := hS₆
  refine wpAny_pure ⟨plainId_quiet F.plain_extend_loop _, ff_loop (prog := prog) (A := A.in1) H hi hk hib hz hd hh _ i _ [] c' _ rfl (by simp; walk_at "o") (below_at (below_kept B k₅) rfl) (FF0.by fun a _ o e => k₅ a o e) (hit.at fun o e => k₅ _ o e) hS₆ hne hSf hSb ?_⟩
  intro h' tk ad c₇ e1 e2 e3
  refine ⟨rfl, hQ S ad h' tk hSn ?_ e2 ?_⟩
  · exact ⟨_, by simpa using e1⟩
  · exact ((Ret.of_stays k₅).trans e3).less (by intro a m; simp at m; rcases m with rfl | rfl; exact .inl (by simp); exact .inr hSn)
end
end Mine
end

section
open PySem PySem.W PyProof.Rows
set_option maxRecDepth 100000
set_option maxHeartbeats 4000000
namespace Mine
open PySem PySem.Spec PySem.Calls PyProof.Rows PySem.W

namespace G
theorem slot_wd_get : Slot "wrapper_descriptor" "__get__" "wrapper_descriptor.__get__" :=
  Slot.of (T := "wrapper_descriptor") (name := "__get__") (owner := "wrapper_descriptor") (n := "__get__") (by rw [typeLookup_type, builtinLookup_eq_fast]; kernel_rfl) (by decide +kernel) (by decide +kernel) (by decide +kernel) (.inl (by decide +kernel)) (by rw [isSubtype_type]; kernel_rfl)
theorem wd_no_set : typeLookup (.type "wrapper_descriptor") "__set__" = pure none := by rw [typeLookup_type, builtinLookup_eq_fast]; kernel_rfl
theorem wd_no_delete : typeLookup (.type "wrapper_descriptor") "__delete__" = pure none := by rw [typeLookup_type, builtinLookup_eq_fast]; kernel_rfl
theorem entry_wd_get : entryFor table "wrapper_descriptor.__get__" = some Builtin.«wrapper_descriptor.__get__» := entryFor_of_tree (by kernel_rfl)
theorem args_wd_get (a b c : Value) : argsOk "wrapper_descriptor.__get__" ⟨[a, b, c], []⟩ := by unfold argsOk; rw [PySem.W.Fast.signatureY_eq]; kernel_rfl
theorem sub_lc_owner : isSubtype (.type "list") (.type (".".intercalate ("list.__contains__".cutAt '.').dropLast)) = pure true := by
  rw [show ".".intercalate ("list.__contains__".cutAt '.').dropLast = "list" by decide +kernel, isSubtype_type]; kernel_rfl
theorem type_lc : typeOf (.builtin "list.__contains__") = pure (.type "wrapper_descriptor") := by kernel_rfl
end G

section
variable {w : World} {mg mb : Str → Option Value} {hb : Heap} {prog : Program} {A : Around} {outer : List Env} {s : Shared} {E : Value → Shared → Prop}

theorem wd_get {sk : Addr} {o : Obj} {R : Result → Shared → Prop} (hx : s.heap.get? sk = some o) (hc : o.cls = .type "list") (hq : R (.ok (.ret (.ref s.heap.objs.size))) { s with heap := s.heap.push (mwObj sk) }) :
    codeAny (model prog w) A (.call (.builtin "wrapper_descriptor.__get__") ⟨[.builtin "list.__contains__", .ref sk, .type "list"], []⟩) R s := by
  obtain ⟨h, g, d, t, os⟩ := s
  have hT : (⟨h, g, d, t, os⟩ : Shared).TypeIs (.ref sk) "list" := ⟨_, hx, hc⟩
  have hT5 : (⟨h, g, d, t, os⟩ : Shared).TypeIs (.builtin "list.__contains__") "wrapper_descriptor" := G.type_lc
  have f8 := G.sub_lc_owner
  refine codeAny_call_builtin G.slot_wd_get.plain G.entry_wd_get (G.slot_wd_get.check _ _ _ _ _ _ _ _ hT5 (G.args_wd_get _ _ _) ?_)
  repeat (any_goals (first | assumption | wp_step))

theorem contains_entry {sk : Addr} {xs : Array Value} {n : Nat} {tk : Tok} {Q : Fin → Shared → Prop} (hx : s.heap.get? sk = some { cls := .type "list", data := .seq xs n }) (hq : Q (.done (.ret (.ref s.heap.objs.size))) { s with heap := s.heap.push (mwObj sk) }) :
    wpAny (model prog w) A (Builtin.«object.__getattribute__» ⟨[.ref sk, .str "__contains__" tk], []⟩) Q E s := by
  obtain ⟨h, g, d, t, os⟩ := s
  have hT : (⟨h, g, d, t, os⟩ : Shared).TypeIs (.ref sk) "list" := ⟨_, hx, rfl⟩
  have hT5 : (⟨h, g, d, t, os⟩ : Shared).TypeIs (.builtin "list.__contains__") "wrapper_descriptor" := G.type_lc
  have f4 := slot_list_contains.lookup
  have f5 := G.type_lc
  have f6 := G.slot_wd_get.lookup
  have f7 := G.wd_no_set
  have f8 := G.wd_no_delete
  repeat (any_goals (first | assumption | wp_step))
  refine wd_get hx rfl ?_
  repeat (any_goals (first | assumption | wp_step))

theorem contains_call {sk : Addr} {xs : Array Value} {n : Nat} {tk : Tok} {R : Result → Shared → Prop} (hx : s.heap.get? sk = some { cls := .type "list", data := .seq xs n }) (hq : R (.ok (.ret (.ref s.heap.objs.size))) { s with heap := s.heap.push (mwObj sk) }) :
    codeAny (model prog w) A (.call (.builtin "list.__getattribute__") ⟨[.ref sk, .str "__contains__" tk], []⟩) R s :=
  codeAny_call_builtin F.slot_list_getattribute.plain F.entry_list_ga (F.slot_list_getattribute.check _ _ _ _ _ _ _ _ (show s.TypeIs (.ref sk) "list" from ⟨_, hx, rfl⟩) (F.args_list_getattribute_2 _ _) (contains_entry hx hq))

theorem list_contains {sk : Addr} {vs : List Value} {Q : Value → Shared → Prop} (hl : LS s.heap sk vs) (hq : Q (.ref s.heap.objs.size) { s with heap := s.heap.push (mwObj sk), toks := s.toks + 1 }) :
    wpAny (model prog w) A (getAttr (.ref sk) "__contains__" true) Q E s := by
  obtain ⟨n, hx⟩ := hl
  obtain ⟨h, g, d, t, os⟩ := s
  have hT : ∀ t, (⟨h, g, d, t, os⟩ : Shared).TypeIs (.ref sk) "list" := fun _ => ⟨_, hx, rfl⟩
  have f2 := F.slot_list_getattribute.lookup
  have f3 := F.slot_list_getattribute.bind (.ref sk)
  unfold getAttr getAttrBy
  repeat (any_goals (first | assumption | exact hT _ | wp_step))
  refine contains_call hx ?_
  repeat (any_goals (first | assumption | wp_step))
end
end Mine
end

section
open PySem PySem.W PyProof.Rows
set_option maxRecDepth 100000
set_option maxHeartbeats 4000000
namespace Mine
open PySem PySem.Spec PySem.Calls PyProof.Rows PySem.W

noncomputable def putSlot (i : Nat) (v : Value) (o : Obj) : Obj := { o with slots := (o.slots ++ Array.replicate (i + 1 - o.slots.size) none).setIfInBounds i (some v) }

section
variable {w : World} {mg mb : Str → Option Value} {hb : Heap} {prog : Program} {A : Around} {outer : List Env} {s : Shared} {E : Value → Shared → Prop}

theorem enterC {f : Addr} {args : List Value} {binds : List (Str × Value)} {oc : Value} {od : Option Addr} {osl : Array (Option Value)} {name qual : Str} {params : Arguments} {body : List Stmt} {scope : Scope} {cl : List (Str × Addr)} {dV kV doc pm cdv ct : Value} {an : Option Addr}
    {R : Result → Shared → Prop}
    (H : Bs w mg mb hb) (B : Below A hb outer s.heap) (hroom : A.depth < recursionLimit)
    (ho : (TopF w.params).lookup f = some ⟨oc, od, .func (fnX name qual params body scope cl dV kV doc pm an cdv ct), osl⟩)
    (hcd : codeIn (TopF w.params) cdv qual = true)
    (hbind : BindsTo s (fnX name qual params body scope cl dV kV doc pm an cdv ct) ⟨args, []⟩ binds) (hloc : ∀ y ∈ binds, scope.names.lookup y.1 = some .local)
    (hcell : ∀ x ∈ scope.names, x.2 ≠ .cell)
    (h : ∀ L h₁, L = s.heap.objs.size → h₁.Ns L (fun y => binds.reverse.lookup y) → s.heap.StaysIn h₁ → Below (A.deeper (envX qual scope L f cdv cl)) hb (envX qual scope L f cdv cl :: outer) h₁ →
      wpAny (model prog w) (A.deeper (envX qual scope L f cdv cl)) (execs body (envX qual scope L f cdv cl))
        (fun fl s' => R (.ok (.ret (match fl with | .ret v => v | _ => .none))) s')
        (fun e s' => wpAny (model prog w) (A.deeper (envX qual scope L f cdv cl)) (leaving (envX qual scope L f cdv cl) e) (fun _ s'' => R (.error e) s'') (fun e' s'' => R (.error e') s'') s')
        { s with heap := h₁, toks := s.toks + binds.length })
    (hco : scope.isCoroutine = false := by rfl) (hgen : scope.isGenerator = false := by rfl) (hk : scope.kind = .function := by rfl) :
    codeAny (model prog w) A (.call (.ref f) ⟨args, []⟩) R s := by
  refine codeAny_call_def (fd := fnX name qual params body scope cl dV kV doc pm an cdv ct) (body := body) (binds := binds) hroom (B.stays _ _ (H.X _ _ ho)) rfl (H.lim.keeps B.stays) (codeRec_of (H.X.keeps B.stays) hcd) rfl hbind hcell hloc (fun h₁ hns hk₁ => ?_) hco hgen hk
  exact h _ h₁ rfl hns hk₁ (below_push B rfl (by show scope.kind ≠ _; rw [hk]; decide) rfl hk₁ hns)

open PySem.Builtin PySem.Builtin.ObjectAttr PySem.Builtin.Getset_descriptor in
theorem slot_put {K : Frag} {C x : Addr} {ox : Obj} {od : Option Obj} {v : Value} {p i : Nat} {R : Result → Shared → Prop} (X : K.In s.heap) (I : InstAt s.heap x ox C od) (hp : slotIn K p C = some i) (hi : i < 1000)
    (h : R (.ok (.ret .none)) { s with heap := s.heap.update x (putSlot i v) }) :
    codeAny (model prog w) A (.call (.builtin "member_descriptor.__set__") ⟨[.ref p, .ref x, v], []⟩) R s := by
  obtain ⟨n, tn, owner, behind, tb, d, sl, cd, ho, hc, hm, hb, rfl⟩ := slot_of X hp
  obtain ⟨hh, g, dr, t, os⟩ := s
  have hx := I.at_
  have l0 := I.type (M := model prog w)
  have l1 := looks_mroIn (M := model prog w) X hm
  have l2 : Looks (model prog w) hh (Builtin.Slots.slotNamesOf (.ref C)) cd.slotNames := (looks_clsIn X hc).andThen .now
  dsimp only at ho hx l0 l1
  have l3 := looks_field (M := model prog w) ho 0 (v := .str n tn) rfl
  have l4 := looks_field (M := model prog w) ho 1 (v := owner) rfl
  have l5 := looks_field (M := model prog w) ho 3 (v := .builtin "proto.slot#set") rfl
  have l6 := looks_field (M := model prog w) ho 4 (v := .int behind tb) rfl
  have l7 : Looks (model prog w) hh (descrItself (.ref p)) [.ref p] := ((Looks.ld (part := none) ho).andThen .now).andThen (Looks.of_pure (by kernel_rfl))
  refine codeAny_call_builtin KF.slot_mset.plain KF.entry_mset (KF.slot_mset.check _ _ _ _ _ _ _ _ ⟨_, ho, rfl⟩ (KF.args_mset _ _ _) ?_)
  unfold Builtin.«member_descriptor.__set__» descrSet descrStoreThrough descrCheckInstance descrNameAndClass isInstance
  repeat lk
  refine ⟨Code.quiet_builtin _ (by decide +kernel), codeAny_builtin KF.entry_slotset ?_⟩
  unfold Builtin.«proto.slot#set» Builtin.Slots.target
  repeat lk
  rw [if_neg hb]
  refine wpAny_pure (wpAny_bind ?_)
  unfold setSlotAt
  dsimp only
  rw [if_neg (by rw [sizeLine_eq]; walk_at "o")]
  exact wpAny_updatePart hx (wpAny_pure h)

theorem ff_set {C x : Addr} {ox : Obj} {od : Option Obj} {name : Str} {v : Value} {p i : Nat} {Q : Unit → Shared → Prop} {K : Frag} (X : K.In s.heap) (I : InstAt s.heap x ox C od)
    (hs : findIn K (.ref C) "__setattr__" = some (some (.builtin "object.__setattr__"))) (hp : plainOver K C = true) (ht : takerIn K C name = some (some (.ref p))) (hT : typeIn K (.ref p) = some (.type "member_descriptor")) (hi : slotIn K p C = some i) (hz : i < 1000)
    (h : Q () { s with heap := s.heap.update x (putSlot i v), toks := s.toks + 1 }) : wpAny (model prog w) A (setAttr (.ref x) name v) Q E s :=
  set_plain X I hs (osa_descr (s := { s with toks := s.toks + 1 }) KF.slot_mset X I hp ht hT (slot_put (s := { s with toks := s.toks + 1 }) X I hi hz h))

/-- iter(list) -/
theorem iter_list {l : Addr} {items : Array Value} {Q : Value → Shared → Prop} (hl : s.heap.IsList l items)
    (hQ : Q (.ref s.heap.objs.size) { s with heap := s.heap.push { cls := .type "list_iterator", data := .fields #[.ref l, .int 0 0] } }) : wpAny (model prog w) A (call (.builtin "iter") [.ref l]) Q E s := by
  refine call_function_entry (by decide +kernel) (by decide +kernel) kdk_entry_iter (kdk_args_iter _) ?_
  unfold Builtin.«iter»
  refine wpAny_bind (m := someArgs "iter" 1 2 _) (wpAny_of_eq (a := [Value.ref l]) (by first | rfl | kernel_rfl!) ?_)
  show wpAny _ _ (pyIter (.ref l) >>= _) _ _ _
  exact wpAny_bind (wpAny_pyIter_list hl (wpAny_pure ⟨_, rfl, hQ⟩))

/-- filterfalse(fn, list) -/
theorem ff_make {mw l sk : Addr} {vs vk : List Value} {Q : Value → Shared → Prop}
    (H : Bs w mg mb hb) (B : Below A hb outer s.heap) (hd : A.depth + 1 < recursionLimit)
    (hm : s.heap.get? mw = some (mwObj sk)) (hl : LS s.heap l vs) (hk : LS s.heap sk vk) (hf : ∀ a ∈ [mw, l, sk], a ∉ fr outer)
    (h : ∀ x dx it h' tk, s.heap.StaysIn h' → FF (fr outer) h' x dx it mw l sk vs vk → h'.IsListIter it l 0 → hb.get? it = none → s.heap.get? it = none → Q (.ref x) { s with heap := h', toks := tk }) :
    wpAny (model prog w) A (call (.ref 54) [.ref mw, .ref l]) Q E s := by
  obtain ⟨hp, g, d, t, os⟩ := s
  have X := H.X.keeps B.stays
  refine wpAny_call (make_core (makes_of X (by kernel_rfl)) (looks_findIn X (r := some (.ref 36)) (by kernel_rfl)) (fun self => bind_fn X self (by kernel_rfl)) (.inl rfl) ?_)
  have k₁ : hp.StaysIn ((hp.push emptyDict).push (instObj 54 hp.objs.size)) := fun b o e => Heap.get?_push_of_some _ (Heap.get?_push_of_some _ e)
  have hx₁ : ((hp.push emptyDict).push (instObj 54 hp.objs.size)).get? (hp.objs.size + 1) = some (instObj 54 hp.objs.size) := by heap_get
  have hd₁ : ((hp.push emptyDict).push (instObj 54 hp.objs.size)).get? hp.objs.size = some emptyDict := by heap_get
  have nx : hp.get? (hp.objs.size + 1) = none := Heap.get?_none_of_le (Nat.le_succ _)
  have nd : hp.get? hp.objs.size = none := Heap.get?_none_of_le (Nat.le_refl _)
  generalize ((hp.push emptyDict).push (instObj 54 hp.objs.size)) = h₁ at *
  generalize hxx : hp.objs.size + 1 = x at *
  generalize hdq : hp.objs.size = dx at *
  have ho : (TopF w.params).lookup 36 = some ⟨_, _, .func (fnX _ _ _ _ _ _ _ _ _ _ _ _ _), _⟩ := rfl
  refine enterC (outer := outer) (binds := [("self", .ref x), ("function", .ref mw), ("iterable", .ref l)]) H (below_at (below_kept B k₁) rfl) hd ho (by kernel_rfl) (BindsTo.of_eq rfl) (locs rfl) (by decide) fun L h₂ hL hn k B₂ => ?_
  clear ho
  have k₀₂ : hp.StaysIn h₂ := fun b o e => k b o (k₁ b o e)
  have hLn : hp.get? L = none := by
    refine Heap.get?_none_of_le ?_
    have q : (dx : Nat) < h₁.objs.size := Heap.lt_size hd₁
    have q2 : (L : Nat) = h₁.objs.size := hL
    omega
  have hxL : x ≠ L := fun q => Nat.lt_irrefl _ (hL ▸ q ▸ Heap.lt_size hx₁)
  have hdL : dx ≠ L := fun q => Nat.lt_irrefl _ (hL ▸ q ▸ Heap.lt_size hd₁)
  have hdx : dx ≠ x := by walk_at "o"
  have kn : ∀ {a : Addr} {o : Obj} {h' : Heap}, h'.get? a = none → h'.get? a = some o → False := fun e q => by rw [e] at q; cases q
  refine wpXS ?_
  intro env₀ A₀ E₀ Q₀ s₀
  refine wpAny_execs_cons (plainObj_wpAny_Assign_Attribute (Call_of rfl (nB (v := .builtin "iter") H B₂.stays (by kernel_rfl) (by kernel_rfl) (sp1 (nL hn (by walk_at "m") (sp0 ⟨keeps_builtin, ?_⟩))))))
  refine iter_list (hl.at (k₀₂ _)).il ?_
  have k₃ : h₂.StaysIn (h₂.push { cls := .type "list_iterator", data := .fields #[.ref l, .int 0 0] }) := fun b o e => Heap.get?_push_of_some _ e
  have hit₃ : (h₂.push { cls := .type "list_iterator", data := .fields #[.ref l, .int 0 0] }).IsListIter h₂.objs.size l 0 := ⟨_, Heap.get?_push_size _ rfl, rfl, rfl⟩
  have hitn : h₂.get? h₂.objs.size = none := Heap.get?_none_of_le (Nat.le_refl _)
  generalize (h₂.push { cls := .type "list_iterator", data := .fields #[.ref l, .int 0 0] }) = h₃ at *
  generalize h₂.objs.size = it at *
  have B₃ := below_kept B₂ k₃
  have hn₃ := hn.keeps k₃
  refine nL hn₃ (by walk_at "m") ?_
  have hx₃ := k₃ _ _ (k _ _ hx₁)
  have hd₃ := k₃ _ _ (k _ _ hd₁)
  have I₃ : InstAt h₃ x (instObj 54 dx) 54 (some emptyDict) := ⟨hx₃, rfl, rfl, hd₃⟩
  refine ff_set (p := 56) (i := 1) (v := .ref it) (H.X.keeps B₃.stays) I₃ (by kernel_rfl) (by kernel_rfl) (by kernel_rfl) (by kernel_rfl) (by kernel_rfl) (by decide) ?_
  have hx₄ := Heap.get?_update_self (putSlot 1 (.ref it)) hx₃ rfl
  have s₄ : Heap.SameBut x h₃ (h₃.update x (putSlot 1 (.ref it))) := Heap.SameBut.update ..
  generalize (h₃.update x (putSlot 1 (.ref it))) = h₄ at *
  have xb : ∀ b o, hp.get? b = some o → b ≠ x := fun b o e q => by rw [q, nx] at e; cases e
  have k₀₄ : hp.StaysIn h₄ := fun b o e => s₄.extBut b o (xb b o e) (k₃ _ _ (k₀₂ b o e))
  have hn₄ := hn₃.sameBut s₄ (Ne.symm hxL)
  have hd₄ := s₄.extBut _ _ hdx hd₃
  have B₄ : Below A hb outer h₄ := below_kept B k₀₄
  refine wpXS ?_
  intro env₀ A₀ E₀ Q₀ s₀
  refine wpAny_execs_cons (plainObj_wpAny_Assign_Attribute (nL hn₄ (by walk_at "m") (nL hn₄ (by walk_at "m") ?_)))
  have I₄ : InstAt h₄ x (putSlot 1 (.ref it) (instObj 54 dx)) 54 (some emptyDict) := ⟨hx₄, rfl, rfl, hd₄⟩
  refine ff_set (p := 55) (i := 0) (v := .ref mw) (H.X.keeps B₄.stays) I₄ (by kernel_rfl) (by kernel_rfl) (by kernel_rfl) (by kernel_rfl) (by kernel_rfl) (by decide) ?_
  have hx₅ := Heap.get?_update_self (putSlot 0 (.ref mw)) hx₄ rfl
  have s₅ : Heap.SameBut x h₄ (h₄.update x (putSlot 0 (.ref mw))) := Heap.SameBut.update ..
  generalize (h₄.update x (putSlot 0 (.ref mw))) = h₅ at *
  have k₀₅ : hp.StaysIn h₅ := fun b o e => s₅.extBut b o (xb b o e) (k₀₄ b o e)
  have hitx : it ≠ x := fun q => kn (q ▸ hitn) (k _ _ hx₁)
  have hitp : hp.get? it = none := stays_none k₀₂ hitn
  refine wpAny_execs_nil ⟨rfl, h x dx it h₅ _ k₀₅ ⟨?_, ?_, k₀₅ _ _ hm, (hl.at (k₀₅ _)).il, (hk.at (k₀₅ _)).il, ?_, ?_, fresh_notin B.frames hitp⟩ ?_ (stays_none B.stays hitp) hitp⟩
  · exact hx₅
  · exact s₅.extBut _ _ hdx hd₄
  · intro a m
    simp only [List.mem_cons, List.not_mem_nil, or_false] at m
    rcases m with rfl | rfl | rfl | rfl | rfl
    · exact fresh_notin B.frames nx
    · exact fresh_notin B.frames nd
    · exact hf _ (by simp)
    · exact hf _ (by simp)
    · exact hf _ (by simp)
  · intro a m q
    subst q
    simp only [List.mem_cons, List.not_mem_nil, or_false] at m
    rcases m with rfl | rfl | rfl | rfl | rfl
    · exact hitx rfl
    · exact kn hitn (k _ _ hd₁)
    · exact kn hitp hm
    · obtain ⟨_, e⟩ := hl; exact kn hitp e
    · obtain ⟨_, e⟩ := hk; exact kn hitp e
  · exact (hit₃.extBut s₄.extBut hitx).extBut s₅.extBut hitx
end
end Mine
end

section
open PySem PySem.W PyProof.Rows
set_option maxRecDepth 100000
set_option maxHeartbeats 4000000
namespace Mine
open PySem PySem.Spec PySem.Calls PyProof.Rows PySem.W

section
variable {w : World} {mg mb : Str → Option Value} {hb : Heap} {prog : Program} {A : Around} {outer : List Env} {s : Shared} {E : Value → Shared → Prop}

theorem keeps_cls {K : Frag} {M : Model} {h : Heap} {C : Addr} (X : K.In h) (e : makesIn K C = true) : ∃ kk, Looks M h (keeperOf (.ref C)) kk := by
  have Y := makes_of (M := M) X e
  obtain ⟨⟨oc, od, cd, sl, hC, _⟩, _, _, _, _, call, _⟩ := Y
  refine ⟨.machine, fun A Q E s k q => ?_⟩
  unfold keeperOf
  refine wpAny_bind (wpAny_load (k _ _ hC) ?_)
  dsimp only
  refine wpAny_bind (call A _ E s k ?_)
  exact wpAny_pure q

theorem filter_fn {l sk : Addr} {vs vk : List Value} {ns ks : List Int} {Q : Value → Shared → Prop}
    (H : Bs w mg mb hb) (B : Below A hb outer s.heap) (hd : A.depth + 2 < recursionLimit) (hh : A.handled = none)
    (hl : LS s.heap l vs) (hk : LS s.heap sk vk) (hi : IntsAre vs ns) (hj : IntsAre vk ks) (hf : ∀ a ∈ [l, sk], a ∉ fr outer) (hz : ns.length ≤ 1000)
    (h : ∀ r vr h' tk, s.heap.get? r = none → LS h' r vr → IntsAre vr (filt ns ks) → Ret [] (fr outer) s.heap h' → Q (.ref r) { s with heap := h', toks := tk }) :
    wpAny (model prog w) A (call (.ref 65) [.ref l, .ref sk]) Q E s := by
  have ho : (TopF w.params).lookup 65 = some ⟨_, _, .func (fnX _ _ _ _ _ _ _ _ _ _ _ _ _), _⟩ := rfl
  refine enter (binds := [("flist", .ref l), ("skip", .ref sk)]) H B (by walk_at "o") ho (by kernel_rfl) (BindsTo.of_eq rfl) (locs rfl) (by decide) fun L h₁ hL hn k B₁ => ?_
  clear ho
  have hsz : ∀ {a : Addr} {o : Obj}, s.heap.get? a = some o → a ≠ L := fun e q => Nat.lt_irrefl _ (hL ▸ q ▸ Heap.lt_size e)
  obtain ⟨ol, hol⟩ := hl.there
  obtain ⟨ok, hok⟩ := hk.there
  refine wpXS ?_
  intro env₀ A₀ E₀ Q₀ s₀
  refine wpAny_execs_cons (wpAny_Return_some (Call_of rfl (nB (v := .type "list") H B₁.stays (by kernel_rfl) (by kernel_rfl) (sp1 (Call_of rfl (nG (v := .ref 54) H B₁.stays (by kernel_rfl) (sp1 (Attr_of (nL hn (by walk_at "m") (list_contains (hk.at (k _)) ?_)))))))))) 
  have hm₂ : (h₁.push (mwObj sk)).get? h₁.objs.size = some (mwObj sk) := Heap.get?_push_size _ rfl
  have hmn : h₁.get? h₁.objs.size = none := Heap.get?_none_of_le (Nat.le_refl _)
  have k₂ : h₁.StaysIn (h₁.push (mwObj sk)) := fun b o e => Heap.get?_push_of_some _ e
  generalize (h₁.push (mwObj sk)) = h₂ at *
  generalize h₁.objs.size = mw at *
  have B₂ := below_kept B₁ k₂
  have k₀₂ : s.heap.StaysIn h₂ := fun b o e => k₂ b o (k b o e)
  refine sp1 (nL (hn.keeps k₂) (by walk_at "m") (sp0 ⟨keeps_cls (H.X.keeps B₂.stays) (by kernel_rfl), ff_make H B₂ (by show A.depth + 1 + 1 < _; walk_at "o") hm₂ (hl.at (k₀₂ _)) (hk.at (k₀₂ _)) ?_ fun x dx it h₃ tk₃ k₃ F₃ hit₃ hib hin => sp0 ⟨keeps_type, list_ff H (below_kept B₂ k₃) (by show A.depth + 1 < _; walk_at "o") hh F₃ hi hj hit₃ hib hz fun r vr h' tk hrn hr hv R => ?_⟩⟩))
  · intro a m
    simp only [List.mem_cons, List.not_mem_nil, or_false] at m
    rw [fr_cons rfl, List.mem_cons]
    rintro (q | q)
    · rcases m with rfl | rfl | rfl
      · obtain ⟨o, _, _, e, _⟩ := hn; rw [← q] at e; rw [e] at hmn; cases hmn
      · exact hsz hol q
      · exact hsz hok q
    · rcases m with rfl | rfl | rfl
      · exact fresh_notin (below_kept B k).frames hmn q
      · exact hf _ (by simp) q
      · exact hf _ (by simp) q
  · have k₀₃ : s.heap.StaysIn h₃ := fun b o e => k₃ b o (k₀₂ b o e)
    refine h r vr h' tk ?_ hr (by simpa using hv) ?_
    · exact stays_none k₀₃ hrn
    · have R' : Ret [it] (L :: fr outer) h₁ h' := (Ret.of_stays fun b o e => k₃ b o (k₂ b o e)).trans R
      have := Ret.leave (X := [it]) hL k (R'.wide (by simp))
      exact this.less (by intro a m; simp at m; subst m; exact .inr (stays_none k₀₂ hin))
end
end Mine
end

section
open PySem PySem.W PyProof.Rows
set_option maxRecDepth 100000
set_option maxHeartbeats 4000000
namespace Mine
open PySem PySem.Spec PySem.Calls PyProof.Rows PySem.W

theorem Ret.ns {X fs : List Addr} {h h' : Heap} {L : Addr} {m : Str → Option Value} (r : Ret X fs h h') (hn : h.Ns L m) (hX : L ∉ X) : h'.Ns L m := by
  obtain ⟨o, es, ep, ho, hd, hk, hm⟩ := hn
  obtain ⟨sl, e⟩ := r.slots L o hX ho fun vs q => by rw [hd] at q; cases q
  exact ⟨_, es, ep, e, hd, hk, hm⟩
theorem LS.ret {X fs : List Addr} {h h' : Heap} {a : Addr} {vs : List Value} (x : LS h a vs) (r : Ret X fs h h') (hX : a ∉ X) (hf : a ∉ fs) : LS h' a vs := x.at fun o e => r.keep a o hX hf e
theorem LS.plain {h : Heap} {a : Addr} {vs : List Value} (x : LS h a vs) : h.PlainList a vs.toArray := x
theorem LS.of_plain {h : Heap} {a : Addr} {vs : Array Value} (x : h.PlainList a vs) : LS h a vs.toList := by obtain ⟨n, e⟩ := x; exact ⟨n, e⟩
theorem LS.lt {h : Heap} {a : Addr} {vs : List Value} (x : LS h a vs) : a < h.objs.size := by obtain ⟨n, e⟩ := x; exact Heap.lt_size e
theorem Ret.of_ext {X fs : List Addr} {h h' : Heap} (k : ∀ b o, b ∉ X → h.get? b = some o → h'.get? b = some o) : Ret X fs h h' :=
  ⟨fun b o n _ e => k b o n e, fun b o n e _ => ⟨o.slots, k b o n e⟩⟩

section
variable {w : World} {prog : Program} {A : Around} {s : Shared} {E : Value → Shared → Prop} {R : Result → Shared → Prop}

/-- the tests of a comprehension's clause -/
noncomputable abbrev testsOf (ifs : List Expr) (cenv : Env) : Sem Bool := forIn ifs true fun c r => if r = true then do let ok ← isTrue c cenv (eval c cenv); pure (ForInStep.yield ok) else pure (ForInStep.yield r)

theorem comp_turns {elt iter : Expr} {x : Str} {px : Pos} {ifs : List Expr} {scope : Scope} {pos : Pos} {I D : Addr} {fp wr FS : List Addr} {n : Nat} {P : Nat → Value → Prop} {St : Nat → Heap → Prop}
    {cenv : Env} {m : Str → Option Value} (W : Walks prog w A I fp wr n P St)
    (hx : cenv.kindOf x = some .local) (hp : (cenv.scope.kind == .class || (cenv.scope.kind == .module && cenv.locals != cenv.globals)) = false)
    (hDC : D ≠ cenv.locals) (hDf : D ∉ fp) (hCf : cenv.locals ∉ fp) (hDF : D ∉ FS) (hfF : ∀ b ∈ fp, b ∉ FS)
    (Inv : List Value → List Value → Heap → Prop) (h0 : Inv [] [] s.heap)
    (stable : ∀ vs ys h h', Inv vs ys h → (∀ b o, b ∉ D :: cenv.locals :: wr → h.get? b = some o → h'.get? b = some o) → Inv vs ys h')
    (hst : St 0 s.heap) (hacc : s.heap.PlainList D #[]) (hn : s.heap.Ns cenv.locals m)
    (turn : ∀ vs ys v s₂ m₂ E', LS s₂.heap D ys → P vs.length v → Inv vs ys s₂.heap → s₂.heap.Ns cenv.locals m₂ → m₂ x = some v → Ret (D :: cenv.locals :: wr) FS s.heap s₂.heap → vs.length < n → St (vs.length + 1) s₂.heap →
      wpAny (model prog w) A (testsOf ifs cenv) (fun ok s₃ => Ex2 fun h₃ tk₃ => s₃ = { s₂ with heap := h₃, toks := tk₃ } ∧ Ret [] FS s₂.heap h₃ ∧
        if ok = true then wpAny (model prog w) A (eval elt cenv) (fun y s₄ => Ex2 fun h₄ tk₄ => s₄ = { s₂ with heap := h₄, toks := tk₄ } ∧ Ret [] FS h₃ h₄ ∧ Inv (vs ++ [v]) (ys ++ [y]) h₄) E' s₃ else Inv (vs ++ [v]) ys h₃) E' s₂)
    (hR : ∀ h' tk m' ys vs, h'.Ns cenv.locals m' → LS h' D ys → vs.length = n → Inv vs ys h' → Ret (D :: cenv.locals :: wr) FS s.heap h' → R (.ok .next) { s with heap := h', toks := tk })
    (hsz : n ≤ sizeLine) :
    codeAny (model prog w) A (.compLoop (.ListComp elt [⟨.Name x px, iter, ifs, 0⟩] scope pos) 0 (.ref I) (.ref D) cenv) R s := by
  have hCw : cenv.locals ∉ wr := fun h => hCf (W.sub _ h)
  have hDw : D ∉ wr := fun h => hDf (W.sub _ h)
  refine codeAny_compLoop_tests
    (fun k s' => Ex5 fun h' tk m' ys (vs : List Value) => s' = { s with heap := h', toks := tk } ∧ St vs.length h' ∧ h'.PlainList D ys.toArray ∧ h'.Ns cenv.locals m' ∧ Inv vs ys h' ∧ ys.length ≤ vs.length ∧ vs.length ≤ n ∧ k = n + 1 - vs.length ∧
      Ret (D :: cenv.locals :: wr) FS s.heap h') ?_ (n + 1)
    ⟨s.heap, s.toks, m, [], [], rfl, hst, hacc, hn, h0, Nat.le_refl _, Nat.zero_le _, rfl, .refl⟩
  rintro k s' ⟨H, tk, m', ys, vs, rfl, hst', hacc', hn', hI, hys, hi, rfl, hr⟩
  by_cases hlt : vs.length < n
  · refine W.item vs.length _ _ _ hlt hst' fun v h₁ tk₁ hPv hst₁ hk₁ => ?_
    refine wpAny_assign_Name (wpAny_storeName_local hx (hn'.at' fun o e => hk₁ _ o hCw e) (fun h₂ hn₂ hs₂ => ?_) hp)
    have up₂ : ∀ b o, b ≠ cenv.locals → b ∉ wr → H.get? b = some o → h₂.get? b = some o := fun b o hbC hbf e => hs₂.extBut b o hbC (hk₁ b o hbf e)
    have r₂ : Ret (D :: cenv.locals :: wr) FS s.heap h₂ := hr.trans (.of_ext fun b o nb e => up₂ b o (fun q => nb (by simp [q])) (fun q => nb (by simp [q])) e)
    have hst₂ : St (vs.length + 1) h₂ := W.frame _ _ _ hst₁ fun b hb o e => hs₂.extBut b o (fun h => hCf (h ▸ hb)) e
    have hI₂ := stable _ _ _ h₂ hI fun b o nb e => up₂ b o (fun q => nb (by simp [q])) (fun q => nb (by simp [q])) e
    have hacc₂ : h₂.PlainList D ys.toArray := hacc'.at fun o e => up₂ D o hDC hDw e
    refine wpAny_mono (turn vs ys v _ _ _ hacc₂ hPv hI₂ hn₂ (by simp) r₂ hlt hst₂) (fun ok s₃ h₃ => ?_) fun _ _ e => e
    obtain ⟨h₃, tk₃, rfl, r₃, hok⟩ := h₃
    have hst₃ : St (vs.length + 1) h₃ := W.frame _ _ _ hst₂ fun b hb o e => r₃.keep b o (by simp) (hfF b hb) e
    have hacc₃ : h₃.PlainList D ys.toArray := hacc₂.at fun o e => r₃.keep D o (by simp) hDF e
    have hn₃ := r₃.ns hn₂ (by simp)
    cases ok with
    | false =>
      simp only [Bool.false_eq_true, if_false] at hok ⊢
      exact ⟨n + 1 - (vs.length + 1), by walk_at "o", h₃, tk₃, _, ys, vs ++ [v], rfl, by simpa using hst₃, hacc₃, hn₃, hok, by simp; omega, by simp; omega, by simp, r₂.trans (r₃.wide (by simp))⟩
    | true =>
      simp only [if_true] at hok ⊢
      refine wpAny_mono hok (fun y s₄ h₄ => ?_) fun _ _ e => e
      obtain ⟨h₄, tk₄, rfl, r₄, hI₄⟩ := h₄
      refine wpAny_list_append_plain (hsz := by simp; walk_at "o") (hacc₃.at fun o e => r₄.keep D o (by simp) hDF e) fun h₅ hl₅ hs₅ => ?_
      refine ⟨n + 1 - (vs.length + 1), by walk_at "o", h₅, tk₄, _, ys ++ [y], vs ++ [v], rfl, ?_, by simpa using hl₅, (r₄.ns hn₃ (by simp)).sameBut hs₅ (Ne.symm hDC), ?_, by simp; omega, by simp; omega, by simp, ?_⟩
      · have := W.frame _ _ h₅ hst₃ fun b hb o e => hs₅.extBut b o (fun h => hDf (h ▸ hb)) (r₄.keep b o (by simp) (hfF b hb) e)
        simpa using this
      · exact stable _ _ _ _ hI₄ fun b o nb e => hs₅.extBut b o (fun q => nb (by simp [q])) e
      · exact (r₂.trans ((r₃.trans r₄).wide (by simp))).trans (.of_but hs₅.extBut (by simp))
  · have hin : vs.length = n := by walk_at "o"
    refine W.done _ _ _ (hin ▸ hst') fun h₁ tk₁ hk₁ => ?_
    refine hR h₁ tk₁ m' ys vs (hn'.at' fun o e => hk₁ _ o hCw e) (LS.of_plain (hacc'.at fun o e => hk₁ _ o hDw e)) hin (stable _ _ _ _ hI fun b o nb e => hk₁ b o (fun q => nb (by simp [q])) e) (hr.trans (.of_ext fun b o nb e => hk₁ b o (fun q => nb (by simp [q])) e))

theorem comp_block {env : Env} {elt iter : Expr} {x : Str} {px : Pos} {ifs : List Expr} {scope : Scope} {cl : List (Str × Addr)} {pos : Pos} {s₂ : Shared} {I : Addr} {fp wr FS : List Addr} {n : Nat} {P : Nat → Value → Prop}
    {St : Nat → Heap → Prop} (W : Walks prog w A I fp wr n P St) (hsz : n ≤ sizeLine) {RR : Value → Addr → Result → Shared → Prop}
    (hcell : ∀ y ∈ scope.names, y.2 ≠ .cell) (hkind : scope.kind = .function) (hx : scope.names.lookup x = some .local) (hst : St 0 s₂.heap) (hfp : ∀ b ∈ fp, b < s₂.heap.objs.size) (hFS : ∀ b ∈ FS, b < s₂.heap.objs.size) (hfF : ∀ b ∈ fp, b ∉ FS)
    (Inv : Addr → Addr → List Value → List Value → Heap → Prop)
    (h0 : ∀ D C h, s₂.heap.get? D = none → s₂.heap.get? C = none → s₂.heap.StaysIn h → Inv D C [] [] h)
    (stable : ∀ D C vs ys h h', s₂.heap.get? D = none → s₂.heap.get? C = none → Inv D C vs ys h → (∀ b o, b ∉ D :: C :: wr → h.get? b = some o → h'.get? b = some o) → Inv D C vs ys h')
    (turn : ∀ D C vs ys v s₃ m₃ E', s₂.heap.get? D = none → s₂.heap.get? C = none → LS s₃.heap D ys → P vs.length v → Inv D C vs ys s₃.heap → s₃.heap.Ns C m₃ → m₃ x = some v → Ret wr FS s₂.heap s₃.heap → vs.length < n → St (vs.length + 1) s₃.heap →
      wpAny (model prog w) A (testsOf ifs (compEnvC scope cl C env)) (fun ok s₄ => Ex2 fun h₄ tk₄ => s₄ = { s₃ with heap := h₄, toks := tk₄ } ∧ Ret [] FS s₃.heap h₄ ∧
        if ok = true then wpAny (model prog w) A (eval elt (compEnvC scope cl C env)) (fun y s₅ => Ex2 fun h₅ tk₅ => s₅ = { s₃ with heap := h₅, toks := tk₅ } ∧ Ret [] FS h₄ h₅ ∧ Inv D C (vs ++ [v]) (ys ++ [y]) h₅) E' s₄ else Inv D C (vs ++ [v]) ys h₄) E' s₃)
    (hRR : ∀ D C h' tk m' ys vs, s₂.heap.get? D = none → s₂.heap.get? C = none → D ≠ C → h'.Ns C m' → LS h' D ys → vs.length = n → Inv D C vs ys h' → Ret wr FS s₂.heap h' → RR (.ref D) C (.ok .next) { s₂ with heap := h', toks := tk }) :
    wpAny (model prog w) A (newList []) (fun acc s₃ => wpAny (model prog w) A (newFunctionEnv scope env.globals cl [] env.qual none .none (some env)) (fun cenv s₄ =>
      codeAny (model prog w) A (.compStart (.ListComp elt [⟨.Name x px, iter, ifs, 0⟩] scope pos) 0 (.ref I) acc { cenv with scope := relabel scope env }) (RR acc cenv.locals) s₄) E s₃) E s₂ := by
  refine wpAny_newObj_type (wpAny_newFunctionEnv hcell (by intro y hy; simp at hy) (fun h₁ hns₁ hsb₁ => ?_) hkind)
  dsimp only at hns₁ hsb₁ ⊢
  generalize hH2 : s₂.heap.push { cls := .type "list", dict := none, data := .seq ([] : List Value).toArray } = H2 at hns₁ hsb₁ ⊢
  have hC : H2.objs.size = s₂.heap.objs.size + 1 := by rw [← hH2, Heap.size_push]
  have fD : s₂.heap.get? s₂.heap.objs.size = none := Heap.get?_none_of_le (Nat.le_refl _)
  have fC : s₂.heap.get? H2.objs.size = none := Heap.get?_none_of_le (by rw [hC]; exact Nat.le_succ _)
  have hDC : s₂.heap.objs.size ≠ H2.objs.size := by rw [hC]; exact Nat.ne_of_lt (Nat.lt_succ_self _)
  have k₁ : s₂.heap.StaysIn h₁ := fun b o e => hsb₁.extBut b o (fun q => by rw [q, fC] at e; cases e) (Heap.get?_push_of_some _ (hH2 ▸ Heap.get?_push_of_some _ e))
  have hacc : h₁.PlainList s₂.heap.objs.size #[] := ⟨_, hsb₁.extBut _ _ hDC (Heap.get?_push_of_some _ (hH2 ▸ Heap.get?_push_size _ rfl))⟩
  have nin : ∀ {l : List Addr} {a : Addr}, (∀ b ∈ l, b < s₂.heap.objs.size) → s₂.heap.objs.size ≤ a → a ∉ l := fun hl ha m => absurd (hl _ m) (Nat.not_lt.mpr ha)
  have leC : s₂.heap.objs.size ≤ H2.objs.size := by rw [hC]; exact Nat.le_succ _
  generalize hDq : s₂.heap.objs.size = D at *
  generalize H2.objs.size = C at *
  have hst₁ : St 0 h₁ := W.frame _ _ _ hst fun b _ o e => k₁ b o e
  have loop : ∀ s₃ : Shared, s₃ = { s₂ with heap := h₁, toks := s₂.toks + ([] : List (Str × Value)).length } →
      codeAny (model prog w) A (.compLoop (.ListComp elt [⟨.Name x px, iter, ifs, 0⟩] scope pos) 0 (.ref I) (.ref D) (compEnvC scope cl C env)) (RR (.ref D) C) s₃ := by
    rintro s₃ rfl
    have back : ∀ {h' : Heap}, Ret (D :: C :: wr) FS h₁ h' → Ret wr FS s₂.heap h' := fun r => ((Ret.of_stays k₁).trans r).less fun a m => by
      simp only [List.mem_cons] at m
      rcases m with rfl | rfl | m
      · exact .inr fD
      · exact .inr fC
      · exact .inl m
    refine comp_turns (FS := FS) (cenv := compEnvC scope cl C env) W (lookup_relabel_local hx) (by simp [compEnvC, relabel, hkind]) hDC (nin hfp (Nat.le_refl _)) (nin hfp leC) (nin hFS (Nat.le_refl _)) hfF
      (Inv D C) (h0 D C _ fD fC k₁) (fun vs ys h h' i k => stable D C vs ys h h' fD fC i k) hst₁ hacc hns₁ (fun vs ys v s₃ m₃ E' hl hP hI hn hm r hlt hs => turn D C vs ys v s₃ m₃ E' fD fC hl hP hI hn hm (back r) hlt hs) (fun h' tk m' ys vs hn hl hlen hI r => hRR D C h' tk m' ys vs fD fC hDC hn hl hlen hI (back r)) hsz
  exact codeAny_compStart_list (loop _ rfl) (W.self 0 _ _ _ hst₁ (loop _ rfl))
end
end Mine
end

section
open PySem PySem.W PyProof.Rows
set_option maxRecDepth 100000
set_option maxHeartbeats 4000000
namespace Mine
open PySem PySem.Spec PySem.Calls PyProof.Rows PySem.W

/-- a thing that a loop may walk over -/
structure Src (prog : Program) (w : World) (A : Around) (FS F0 W0 : List Addr) (h : Heap) (xv : Value) (n : Nat) (item : Nat → Value → Prop) : Prop where
  opens : ∀ (s : Shared) (Q : Value → Shared → Prop) (E : Value → Shared → Prop), s.heap = h →
    (∀ I fp wr P St h₂, Walks prog w A I fp wr n P St → (∀ i v, i < n → P i v → item i v) → St 0 h₂ → (∀ b ∈ fp, b < h₂.objs.size) → (∀ b ∈ fp, b ∉ FS) → (∀ b ∈ fp, b ∈ F0 ∨ h.get? b = none) → (∀ b ∈ wr, b ∈ W0 ∨ h.get? b = none) →
      (∀ i h', St i h' → ∀ b ∈ wr, ∃ o, h'.get? b = some o) → h.StaysIn h₂ → Q (.ref I) { s with heap := h₂ }) → wpAny (model prog w) A (pyIter xv) Q E s

section
variable {w : World} {prog : Program} {A : Around} {s : Shared} {E : Value → Shared → Prop} {R : Result → Shared → Prop}

theorem Src.list {FS : List Addr} {h : Heap} {l : Addr} {items : List Value} (hh : A.handled = none) (hl : LS h l items) (hf : l ∉ FS) (hFS : ∀ b ∈ FS, ∃ o, h.get? b = some o) : Src prog w A FS [l] [] h (.ref l) items.length (fun i v => items[i]? = some v) where
  opens := fun s Q E e k => by
    subst e
    have hne : l ≠ s.heap.objs.size := fun q => Nat.lt_irrefl _ (q ▸ hl.lt)
    refine wpAny_pyIter_list hl.il (k _ _ _ _ _ _ (Walks.list hh s.heap.objs.size l hne items.toArray) (fun i v _ e => by simpa using e) ⟨⟨_, Heap.get?_push_size _ rfl, rfl, rfl⟩, hl.il.push _⟩ ?_ ?_ ?_ ?_ ?_ (fun b o e => Heap.get?_push_of_some _ e))
    · intro b m
      rw [Heap.size_push]
      simp only [List.mem_cons, List.not_mem_nil, or_false] at m
      rcases m with rfl | rfl
      · exact Nat.lt_succ_self _
      · exact Nat.lt_succ_of_lt hl.lt
    · intro b m q
      simp only [List.mem_cons, List.not_mem_nil, or_false] at m
      rcases m with rfl | rfl
      · exact Nat.lt_irrefl _ (Heap.lt_size (hFS _ q).choose_spec)
      · exact hf q
    · intro b m
      simp only [List.mem_cons, List.not_mem_nil, or_false] at m
      rcases m with rfl | rfl
      · exact .inr (Heap.get?_none_of_le (Nat.le_refl _))
      · exact .inl (by simp)
    · intro b m
      rw [List.mem_singleton.mp m]
      exact .inr (Heap.get?_none_of_le (Nat.le_refl _))
    · intro i h' st b m
      rw [List.mem_singleton.mp m]
      obtain ⟨o, e, _⟩ := st.1
      exact ⟨o, e⟩

/-- a list iterator that stands already -/
theorem Src.listiter {FS : List Addr} {h : Heap} {it l : Addr} {items : List Value} (hh : A.handled = none) (hit : h.IsListIter it l 0) (hl : LS h l items) (hf : l ∉ FS) (hf' : it ∉ FS) : Src prog w A FS [it, l] [it] h (.ref it) items.length (fun i v => items[i]? = some v) where
  opens := fun s Q E e k => by
    subst e
    have hne : l ≠ it := by
      obtain ⟨o, e, c, _⟩ := hit; obtain ⟨n, e'⟩ := hl
      rintro rfl; rw [e] at e'; cases e'; simp at c
    refine wpAny_pyIter_listiter hit (k _ _ _ _ _ _ (Walks.list hh it l hne items.toArray) (fun i v _ e => by simpa using e) ⟨hit, hl.il⟩ ?_ ?_ (fun b m => .inl m) ?_ ?_ (fun b o e => e))
    · intro b m
      simp only [List.mem_cons, List.not_mem_nil, or_false] at m
      rcases m with rfl | rfl
      · obtain ⟨o, e, _⟩ := hit; exact Heap.lt_size e
      · exact hl.lt
    · intro b m
      simp only [List.mem_cons, List.not_mem_nil, or_false] at m
      rcases m with rfl | rfl
      · exact hf'
      · exact hf
    · intro b m
      exact .inl m
    · intro i h' st b m
      rw [List.mem_singleton.mp m]
      obtain ⟨o, e, _⟩ := st.1
      exact ⟨o, e⟩

theorem Src.rangeiter {FS : List Addr} {h : Heap} {it : Addr} {a c : Int} {n : Nat} (hh : A.handled = none) (hit : IsRangeIter h it a n c) (hf' : it ∉ FS) : Src prog w A FS [it] [it] h (.ref it) n (fun i v => ∃ t, v = .int (a + i * c) t) where
  opens := fun s Q E e k => by
    subst e
    refine wpAny_pyIter_rangeiter hit (k _ _ _ _ _ _ (Walks.range hh it a c n) (fun i v _ e => e) (by simpa using hit) ?_ ?_ (fun b m => .inl m) ?_ ?_ (fun b o e => e))
    · intro b m
      rw [List.mem_singleton.mp m]; exact Heap.lt_size hit
    · intro b m
      rw [List.mem_singleton.mp m]; exact hf'
    · intro b m
      exact .inl m
    · intro i h' st b m
      rw [List.mem_singleton.mp m]
      exact ⟨_, st⟩
end

section
variable {w : World} {prog : Program} {A : Around} {s : Shared} {E : Value → Shared → Prop} {env : Env}

/-- a comprehension that makes a list -/
theorem ListComp_of {elt iter : Expr} {x : Str} {px : Pos} {ifs : List Expr} {scope : Scope} {cl : List (Str × Addr)} {pos : Pos} {FS W0 : List Addr} {Q : Value → Shared → Prop}
    (hclos : closureFor scope env = pure cl) (hcell : ∀ y ∈ scope.names, y.2 ≠ .cell) (hkind : scope.kind = .function)
    (hnames : ∀ y ∈ scope.names, y.2 = .local → scope.names.lookup y.1 = some .local) (hx : scope.names.lookup x = some .local)
    (h : wpAny (model prog w) A (eval iter env) (fun xv s₁ => Ex3 fun n item F0 => Src prog w A FS F0 W0 s₁.heap xv n item ∧ n ≤ sizeLine ∧ (∀ b ∈ FS, ∃ o, s₁.heap.get? b = some o) ∧ ∃ Inv : List Addr → Nat → List Value → Heap → Prop,
      (∀ bad h, Inv bad 0 [] h) ∧
      (∀ bad i ys h h', Inv bad i ys h → (∀ b o, b ∉ bad → h.get? b = some o → h'.get? b = some o) → Inv bad i ys h') ∧
      (∀ bad C i v ys s₃ m₃ E', i < n → item i v → Inv bad i ys s₃.heap → s₃.heap.Ns C m₃ → m₃ x = some v → Ret W0 FS s₁.heap s₃.heap → (∀ b ∈ bad, ∃ o, s₃.heap.get? b = some o) → (∀ b ∈ bad, b ∈ W0 ∨ s₁.heap.get? b = none) → C ∈ bad →
        wpAny (model prog w) A (testsOf ifs (compEnvC scope cl C env)) (fun ok s₄ => Ex2 fun h₄ tk₄ => s₄ = { s₃ with heap := h₄, toks := tk₄ } ∧ Ret [] FS s₃.heap h₄ ∧
          if ok = true then wpAny (model prog w) A (eval elt (compEnvC scope cl C env)) (fun y s₅ => Ex2 fun h₅ tk₅ => s₅ = { s₃ with heap := h₅, toks := tk₅ } ∧ Ret [] FS h₄ h₅ ∧ Inv bad (i + 1) (ys ++ [y]) h₅) E' s₄ else Inv bad (i + 1) ys h₄) E' s₃) ∧
      (∀ bad D ys h' tk, s₁.heap.get? D = none → LS h' D ys → Inv bad n ys h' → Ret W0 FS s₁.heap h' → Q (.ref D) { s₁ with heap := h', toks := tk })) E s)
    (hs : ∀ x, foldedSetIterable iter env x = pure x := by intro _; rfl) :
    wpAny (model prog w) A (eval (.ListComp elt [⟨.Name x px, iter, ifs, 0⟩] scope pos) env) Q E s := by
  rw [eval_ListComp]
  refine wpAny_comprehension_free (use := none) rfl hs hclos hkind hnames (wpAny_mono h (fun xv s₁ h₁ => ?_) fun _ _ e => e)
  obtain ⟨n, item, F0, S, hn, hFS, Inv, i0, stable, turn, fin⟩ := h₁
  refine S.opens s₁ _ _ rfl fun I fp wr P St h₂ W hP hst hfp hfF hf0 hwr hex k => ?_
  have wrF : ∀ {h' : Heap}, Ret wr FS h₂ h' → Ret W0 FS s₁.heap h' := fun r => ((Ret.of_stays k).trans r).less fun a m => hwr a m
  refine comp_block (FS := FS) (RR := fun acc C => compPost (model prog w) A E none Q acc C) W hn hcell hkind hx hst hfp (fun b m => ?_) hfF (fun D C vs ys h => Inv (D :: C :: wr) vs.length ys h) (fun D C h _ _ _ => i0 _ h)
    (fun D C vs ys h h' _ _ i k => stable _ _ _ h h' i k) (fun D C vs ys v s₃ m₃ E' hD hC hlD hPv hI hnC hm r hlt hst₃ => ?_) (fun D C h' tk m' ys vs hD hC hDC hnC hl hlen hI r => ?_)
  · obtain ⟨o, e⟩ := hFS b m
    exact Heap.lt_size (k b o e)
  · have h1 : ∃ o, s₃.heap.get? D = some o := hlD.there
    have h2 : ∃ o, s₃.heap.get? C = some o := by obtain ⟨o, _, _, e, _⟩ := hnC; exact ⟨o, e⟩
    refine wpAny_mono (turn (D :: C :: wr) C vs.length v ys s₃ m₃ E' hlt (hP _ _ hlt hPv) hI hnC hm (wrF r) ?_ ?_ (by simp)) (fun ok s₄ h₄ => ?_) fun _ _ e => e
    · intro b m
      simp only [List.mem_cons] at m
      rcases m with rfl | rfl | m
      · exact h1
      · exact h2
      · exact hex _ _ hst₃ b m
    · intro b m
      simp only [List.mem_cons] at m
      rcases m with rfl | rfl | m
      · exact .inr (stays_none k hD)
      · exact .inr (stays_none k hC)
      · exact hwr b m
    · obtain ⟨h₄, tk₄, e, r₄, hok⟩ := h₄
      refine ⟨h₄, tk₄, e, r₄, ?_⟩
      cases ok <;> simpa using hok
  · refine ⟨m', hnC, fun h'' hs'' => fin (D :: C :: wr) D ys h'' tk (stays_none k hD) (hl.at fun o e => hs''.extBut D o hDC e) ?_ ?_⟩
    · exact stable _ _ _ h' h'' (hlen ▸ hI) fun b o nb e => hs''.extBut b o (fun q => nb (by simp [q])) e
    · refine ((Ret.of_stays k).trans ((r.wide (Y := C :: wr) fun a m => .tail _ m).trans (.of_but hs''.extBut (.head _)))).less fun a m => ?_
      rcases List.mem_cons.mp m with rfl | m
      · exact .inr (stays_none k hC)
      · exact hwr a m
end
end Mine
end

section
open PySem PySem.W PyProof.Rows
set_option maxRecDepth 100000
set_option maxHeartbeats 4000000
namespace Mine
open PySem PySem.Spec PySem.Calls PyProof.Rows PySem.W

theorem below_upd {A : Around} {hb h h' : Heap} {outer : List Env} {X : List Addr} {L : Addr} {m : Str → Option Value} (B : Below A hb outer h) (r : Ret (L :: X) (fr outer) h h') (hn : h'.Ns L m) (hL : hb.get? L = none) (hX : ∀ a ∈ X, hb.get? a = none ∧ a ∉ fr outer) : Below A hb outer h' := by
  refine ⟨B.stack, fun b o e => r.keep b o (fun m => ?_) (fun m => ?_) (B.stays b o e), ?_⟩
  · rcases List.mem_cons.mp m with rfl | m
    · rw [hL] at e; cases e
    · rw [(hX b m).1] at e; cases e
  · rw [(fr_there B.frames m).1] at e; cases e
  · have go : ∀ {l : List Env}, (∀ a ∈ fr l, a ∈ fr outer) → h.FunFrames hb l → h'.FunFrames hb l := by
      intro l
      induction l with
      | nil => intro _ _; trivial
      | cons env l ih =>
        intro hs hl
        obtain ⟨hk, ⟨L', o, hf, hn', ho, hd⟩, hr⟩ := hl
        have hm : L' ∈ fr outer := hs L' (by rw [fr_cons hf]; exact .head _)
        refine ⟨hk, ?_, ih (fun a ha => hs a (by rw [fr_cons hf]; exact .tail _ ha)) hr⟩
        by_cases q : L' = L
        · subst q
          obtain ⟨o', es, ep, ho', hd', _⟩ := hn
          exact ⟨L', o', hf, hn', ho', fun vs q => by rw [hd'] at q; cases q⟩
        · obtain ⟨sl, e⟩ := r.slots L' o (fun m => by
            rcases List.mem_cons.mp m with m | m
            · exact q m
            · exact (hX L' m).2 hm) ho hd
          exact ⟨L', _, hf, hn', e, hd⟩
    exact go (fun _ m => m) B.frames

section
variable {w : World} {prog : Program} {A : Around} {s : Shared} {E : Value → Shared → Prop} {env : Env}

/-- the state of a loop between two turns -/
noncomputable def LoopSt (FS X W0 : List Addr) (L : Addr) (h₁ : Heap) (J : List Addr → Nat → (Str → Option Value) → Heap → Prop) (bad : List Addr) (i : Nat) (m : Str → Option Value) (h : Heap) : Prop :=
  h.Ns L m ∧ J bad i m h ∧ Ret (L :: X ++ W0) FS h₁ h

theorem For_of {x : Str} {px : Pos} {iter : Expr} {body : List Stmt} {pos : Pos} {FS W0 : List Addr} {L : Addr} {Q : Flow → Shared → Prop}
    (hL : env.locals = L) (hx : env.kindOf x = some .local) (hp : (env.scope.kind == .class || (env.scope.kind == .module && env.locals != env.globals)) = false)
    (h : wpAny (model prog w) A (eval iter env) (fun xv s₁ => Ex3 fun n item F0 => Src prog w A FS F0 W0 s₁.heap xv n item ∧ L ∈ FS ∧ ∃ m₀, s₁.heap.Ns L m₀ ∧ ∃ X : List Addr, (∀ a ∈ X, ∃ o, s₁.heap.get? a = some o) ∧ L ∉ W0 ∧ ∃ J : List Addr → Nat → (Str → Option Value) → Heap → Prop,
      (∀ a ∈ X, a ∉ F0) ∧
      (∀ bad h, (∀ b ∈ bad, b ∈ W0 ∨ s₁.heap.get? b = none) → s₁.heap.StaysIn h → J bad 0 m₀ h) ∧
      (∀ bad i m h h', J bad i m h → (∀ b o, b ∉ L :: bad → h.get? b = some o → h'.get? b = some o) → J bad i m h') ∧
      (∀ bad i v m H tk E', i < n → item i v → J bad i m H → H.Ns L (fun y => if y = x then some v else m y) → Ret (L :: X ++ W0) FS s₁.heap H → (∀ b ∈ bad, ∃ o, H.get? b = some o) → (∀ b ∈ bad, b ∈ W0 ∨ s₁.heap.get? b = none) →
        wpAny (model prog w) A (execs body env) (fun f s₃ => match f with
          | .next | .cont => Ex3 fun m' h₃ tk₃ => s₃ = { s₁ with heap := h₃, toks := tk₃ } ∧ h₃.Ns L m' ∧ J bad (i + 1) m' h₃ ∧ Ret (L :: X) FS H h₃
          | .brk => Q .next s₃
          | .ret v => Q (.ret v) s₃) E' { s₁ with heap := H, toks := tk }) ∧
      (∀ bad m h' tk, h'.Ns L m → J bad n m h' → Ret (L :: X ++ W0) FS s₁.heap h' → (∀ b ∈ bad, b ∈ W0 ∨ s₁.heap.get? b = none) → Q .next { s₁ with heap := h', toks := tk })) E s)
    (hs : ∀ x, foldedSetIterable iter env x = pure x := by intro _; rfl) :
    wpAny (model prog w) A (exec (.For (.Name x px) iter body [] pos) env) Q E s := by
  refine wpAny_For (wpAny_mono h (fun xv s₁ h₁ => ?_) fun _ _ e => e) hs
  obtain ⟨n, item, F0, S, hLF, m₀, hn₀, X, hXe, hLW, J, hXf, j0, stable, turn, fin⟩ := h₁
  refine S.opens s₁ _ _ rfl fun I fp wr P St h₂ W hP hst hfp hfF hf0 hwr hex k => ?_
  have hLf : L ∉ fp := fun q => hfF L q hLF
  have hLw : L ∉ wr := fun q => hLf (W.sub _ q)
  have hXfp : ∀ a ∈ X, a ∉ fp := fun a m q => by
    rcases hf0 a q with z | z
    · exact hXf a m z
    · obtain ⟨o, e⟩ := hXe a m; rw [z] at e; cases e
  refine codeAny_forLoop (fun c s' => Ex4 fun i m h' tk => s' = { s₁ with heap := h', toks := tk } ∧ St i h' ∧ i ≤ n ∧ c = n + 1 - i ∧ LoopSt FS X W0 L s₁.heap J wr i m h') ?_ (n + 1)
    ⟨0, m₀, h₂, s₁.toks, rfl, hst, Nat.zero_le _, rfl, hn₀.keeps k, j0 _ _ hwr k, .of_stays k⟩
  rintro c s' ⟨i, m, h', tk, rfl, hst', hi, rfl, hn', hJ, hr⟩
  have wrR : ∀ {h'' : Heap}, (∀ b o, b ∉ wr → h'.get? b = some o → h''.get? b = some o) → Ret (L :: X ++ W0) FS s₁.heap h'' := fun k' =>
    (((hr.wide (Y := L :: X ++ W0 ++ wr) fun a m => by simp at m ⊢; grind).trans (.of_ext fun b o nb e => k' b o (fun q => nb (by simp [q])) e))).less fun a m => by
      simp only [List.mem_append, List.mem_cons] at m ⊢
      rcases m with m | m
      · exact .inl m
      · rcases hwr a m with q | q
        · exact .inl (.inr q)
        · exact .inr q
  by_cases hlt : i < n
  · refine W.item i _ _ _ hlt hst' fun v h₁' tk₁ hPv hst₁ hk₁ => ?_
    have hn₁ : h₁'.Ns L m := hn'.at' fun o e => hk₁ _ o hLw e
    refine wpAny_assign_Name (wpAny_storeName_local (m := m) hx (by rw [hL]; exact hn₁) (fun h₂' hn₂ hs₂ => ?_) hp)
    rw [hL] at hn₂ hs₂
    have up₂ : ∀ b o, b ∉ L :: wr → h'.get? b = some o → h₂'.get? b = some o := fun b o nb e => hs₂.extBut b o (fun q => nb (by simp [q])) (hk₁ b o (fun q => nb (by simp [q])) e)
    have r₂ : Ret (L :: X ++ W0) FS s₁.heap h₂' := (wrR hk₁).trans (.of_but hs₂.extBut (by simp))
    have hst₂ : St (i + 1) h₂' := W.frame _ _ _ hst₁ fun b hb o e => hs₂.extBut b o (fun h => hLf (h ▸ hb)) e
    refine wpAny_mono (turn wr i v m _ _ _ hlt (hP i v hlt hPv) (stable _ _ _ _ _ hJ up₂) hn₂ r₂ (fun b m => hex _ _ hst₂ b m) hwr) (fun f s₃ h₃ => ?_) fun _ _ e => e
    have cont : (Ex3 fun m' h₃ tk₃ => s₃ = { s₁ with heap := h₃, toks := tk₃ } ∧ h₃.Ns L m' ∧ J wr (i + 1) m' h₃ ∧ Ret (L :: X) FS h₂' h₃) →
        ∃ c', c' < n + 1 - i ∧ Ex4 fun i m h' tk => s₃ = { s₁ with heap := h', toks := tk } ∧ St i h' ∧ i ≤ n ∧ c' = n + 1 - i ∧ LoopSt FS X W0 L s₁.heap J wr i m h' := by
      rintro ⟨m', H₃, tk₃, e₃, hn₃, hJ₃, r₃⟩
      refine ⟨n + 1 - (i + 1), by walk_at "o", i + 1, m', H₃, tk₃, e₃, W.frame _ _ _ hst₂ fun b hb o e => r₃.keep b o (fun q => ?_) (hfF b hb) e, by walk_at "o", rfl, hn₃, hJ₃, r₂.trans (r₃.wide (by simp; grind))⟩
      rcases List.mem_cons.mp q with rfl | q
      · exact hLf hb
      · exact hXfp b q hb
    cases f with
    | next => dsimp only at h₃ ⊢; exact cont h₃
    | cont => dsimp only at h₃ ⊢; exact cont h₃
    | brk => exact h₃
    | ret v => exact h₃
  · have hin : i = n := by walk_at "o"
    subst hin
    refine W.done _ _ _ hst' fun h₁' tk₁ hk₁ => ?_
    refine wpAny_execs_nil (fin wr m h₁' tk₁ (hn'.at' fun o e => hk₁ _ o hLw e) (stable _ _ _ _ _ hJ fun b o nb e => hk₁ b o (fun q => nb (by simp [q])) e) (wrR hk₁) hwr)
end
end Mine
end

section
open PySem PySem.W PyProof.Rows
set_option maxRecDepth 100000
set_option maxHeartbeats 4000000
namespace Mine
open PySem PySem.Spec PySem.Calls PyProof.Rows PySem.W

/-- what iter(..) opens -/
structure ItSrc (prog : Program) (w : World) (h : Heap) (xv : Value) (n : Nat) (item : Nat → Value → Prop) (F0 : List Addr) : Prop where
  there : ∀ a ∈ F0, ∃ o, h.get? a = some o
  opens : ∀ (A : Around) (s : Shared) (Q : Value → Shared → Prop) (E : Value → Shared → Prop), h.StaysIn s.heap →
    (∀ it h₂, s.heap.StaysIn h₂ → s.heap.get? it = none → (∃ o, h₂.get? it = some o) → (∀ h₃ FS A', A'.handled = none → it ∉ FS → (∀ a ∈ F0, a ∉ FS) → (∀ b o, b ∈ it :: F0 → h₂.get? b = some o → h₃.get? b = some o) → Src prog w A' FS (it :: F0) [it] h₃ (.ref it) n item) →
      Q (.ref it) { s with heap := h₂ }) → wpAny (model prog w) A (call (.builtin "iter") [xv]) Q E s

section
variable {w : World} {mg mb : Str → Option Value} {hb : Heap} {prog : Program} {A : Around} {outer : List Env} {s : Shared} {E : Value → Shared → Prop}

theorem iter_range {r : Addr} {a b c : Int} {t u v : Tok} {Q : Value → Shared → Prop} (hr : IsRange s.heap r a b c t u v) (hsmall : Builtin.Range.small a b c = true)
    (hQ : Q (.ref s.heap.objs.size) { s with heap := s.heap.push { cls := .type "range_iterator", data := .fields #[rawInt a, rawInt (Builtin.Range.rangeSize a b c), rawInt c] } }) : wpAny (model prog w) A (call (.builtin "iter") [.ref r]) Q E s := by
  refine call_function_entry (by decide +kernel) (by decide +kernel) kdk_entry_iter (kdk_args_iter _) ?_
  unfold Builtin.«iter»
  refine wpAny_bind (m := someArgs "iter" 1 2 _) (wpAny_of_eq (a := [Value.ref r]) (by first | rfl | kernel_rfl!) ?_)
  show wpAny _ _ (pyIter (.ref r) >>= _) _ _ _
  exact wpAny_bind (wpAny_pyIter_range hr hsmall (wpAny_pure ⟨_, rfl, hQ⟩))

theorem ItSrc.list {h : Heap} {l : Addr} {items : List Value} (hl : LS h l items) : ItSrc prog w h (.ref l) items.length (fun i v => items[i]? = some v) [l] where
  there := fun a m => by rw [List.mem_singleton.mp m]; exact hl.there
  opens := fun A s Q E k hQ => by
    refine iter_list (hl.at (k _)).il (hQ _ _ (fun b o e => Heap.get?_push_of_some _ e) (Heap.get?_none_of_le (Nat.le_refl _)) ⟨_, Heap.get?_push_size _ rfl⟩ fun h₃ FS A' hh hf hf' k₃ => ?_)
    exact Src.listiter hh ⟨_, k₃ _ _ (.head _) (Heap.get?_push_size _ rfl), rfl, rfl⟩ (hl.at fun o e => k₃ _ _ (by simp) (Heap.get?_push_of_some _ (k _ _ e))) (hf' l (by simp)) hf

theorem ItSrc.range {h : Heap} {r : Addr} {a b c : Int} {t u v : Tok} {n : Nat} (hr : IsRange h r a b c t u v) (hsmall : Builtin.Range.small a b c = true) (hn : Builtin.Range.rangeSize a b c = n) : ItSrc prog w h (.ref r) n (fun i v => ∃ t, v = .int (a + i * c) t) [] where
  there := fun a m => absurd m List.not_mem_nil
  opens := fun A s Q E k hQ => by
    refine iter_range (k _ _ hr) hsmall (hQ _ _ (fun b o e => Heap.get?_push_of_some _ e) (Heap.get?_none_of_le (Nat.le_refl _)) ⟨_, Heap.get?_push_size _ rfl⟩ fun h₃ FS A' hh hf hf' k₃ => ?_)
    rw [hn] at k₃
    exact Src.rangeiter hh (k₃ _ _ (.head _) (Heap.get?_push_size _ rfl)) hf

/-- reduce, a start given -/
theorem reduce_fn {fv seq : Value} {fa init : Addr} {fo : Obj} {fd : FuncData} {vi : List Value} {n : Nat} {item : Nat → Value → Prop} {F0 : List Addr} {Q : Value → Shared → Prop} (I : List Addr → Nat → Value → Heap → Prop)
    (H : Bs w mg mb hb) (B : Below A hb outer s.heap) (hd : A.depth < recursionLimit) (hh : A.handled = none)
    (hf : fv = .ref fa) (hfo : s.heap.get? fa = some fo) (hfd : fo.data = .func fd) (hff : fa ∉ fr outer) (hi : LS s.heap init vi)
    (S : ItSrc prog w s.heap seq n item F0) (hF0 : ∀ a ∈ F0, a ∉ fr outer)
    (i0 : ∀ av h', (∀ b ∈ av, s.heap.get? b = none) → s.heap.StaysIn h' → I av 0 (.ref init) h')
    (stable : ∀ av i v h h', I av i v h → (∀ b o, b ∉ av → h.get? b = some o → h'.get? b = some o) → I av i v h')
    (step : ∀ env L A' s' av i v el E', env.frame = some L → s.heap.get? L = none → L ∈ av → i < n → item i el → I av i v s'.heap → (∀ b ∈ av, ∃ o, s'.heap.get? b = some o) → Ret [] (fr outer) s.heap s'.heap → Below A' hb (env :: outer) s'.heap → A'.depth = A.depth + 1 → A'.handled = none → A'.units ≤ A.units + 10 →
      wpAny (model prog w) A' (call fv [v, el]) (fun v' s'' => Ex2 fun h'' tk'' => s'' = { s' with heap := h'', toks := tk'' } ∧ Ret [] (fr (env :: outer)) s'.heap h'' ∧ I av (i + 1) v' h'') E' s')
    (hQ : ∀ av v h' tk, I av n v h' → Ret [] (fr outer) s.heap h' → Q v { s with heap := h', toks := tk }) :
    wpAny (model prog w) A (call (.ref 111) [fv, seq, .ref init]) Q E s := by
  subst hf
  have ho : (TopF w.params).lookup 111 = some ⟨_, _, .func (fnX _ _ _ _ _ _ _ _ _ _ _ _ _), _⟩ := rfl
  have hT : (TopF w.params).lookup 104 = some ⟨_, _, .seq _ _, _⟩ := rfl
  have hT' := B.stays _ _ (H.X _ _ hT)
  refine enter (binds := [("function", .ref fa), ("sequence", seq), ("initial", .ref init)]) H B (by walk_at "o") ho (by kernel_rfl) (BindsTo.of_defaults (T := 104) rfl hT' rfl rfl rfl) (locs rfl) (by decide) fun L h₁ hL hn k B₁ => ?_
  clear ho hT hT'
  have hLn : s.heap.get? L = none := Heap.get?_none_of_le (by rw [hL]; exact Nat.le_refl _)
  have hbL : hb.get? L = none := (fr_there B₁.frames (.head _)).1
  have ex : ∀ {a : Addr} {o : Obj}, s.heap.get? a = some o → a ≠ L := fun e q => by rw [q, hLn] at e; cases e
  refine wpXS ?_
  intro env₀ A₀ E₀ Q₀ s₀
  refine wpAny_execs_cons (wpAny_Assign_Name (Call_of rfl (nB (v := .builtin "iter") H B₁.stays (by kernel_rfl) (by kernel_rfl) (sp1 (nL hn (by walk_at "m") (sp0 ⟨keeps_builtin, ?_⟩))))))
  refine S.opens _ _ _ _ k fun it h₂ k₂ hit₂ hitx hsrc => ?_
  have hitn : s.heap.get? it = none := stays_none k hit₂
  have hbit : hb.get? it = none := stays_none B.stays hitn
  have hitL : it ≠ L := by rintro rfl; obtain ⟨o, _, _, e, _⟩ := hn; rw [hit₂] at e; cases e
  have B₂ := below_kept B₁ k₂
  refine sL (hn.keeps k₂) fun h₃ hn₃ hs₃ => ?_
  have B₃ := below_same B₂ hbL hs₃ hn₃
  have k₃ : s.heap.StaysIn h₃ := fun b o e => hs₃.extBut b o (ex e) (k₂ _ _ (k _ _ e))
  obtain ⟨ni, hi₃⟩ := hi.at (k₃ _)
  have hm : (TopF w.params).lookup 103 = some ⟨.type "object", _, _, _⟩ := rfl
  have hm₃ := B₃.stays _ _ (H.X _ _ hm)
  refine wpXS ?_
  intro env₀ A₀ E₀ Q₀ s₀
  refine wpAny_execs_cons (wpAny_If (wpAny_isTrue_Compare1 (nL hn₃ (by walk_at "m") (nG (v := .ref 103) H B₃.stays (by kernel_rfl) (wpAny_is_ref_other ?_ hi₃ hm₃ (by simp) (wpAny_truthy_bool ?_))))))
  · rintro rfl
    rw [hi₃] at hm₃; injection hm₃ with q; injection q with q _; simp at q
  clear hm hm₃
  rw [if_neg (by decide)]
  refine wpXS ?_
  intro env₀ A₀ E₀ Q₀ s₀
  refine wpAny_execs_cons (wpAny_Assign_Name (nL hn₃ (by walk_at "m") (sL hn₃ fun h₄ hn₄ hs₄ => ?_)))
  have B₄ := below_same B₃ hbL hs₄ hn₄
  have k₄ : s.heap.StaysIn h₄ := fun b o e => hs₄.extBut b o (ex e) (k₃ b o e)
  refine wpXS ?_
  intro env₀ A₀ E₀ Q₀ s₀
  refine wpAny_execs_nil (wpAny_execs_cons (For_of (L := L) rfl rfl (by rfl) (nL hn₄ (by walk_at "m") ⟨n, item, _, hsrc h₄ (L :: fr outer) _ hh ?_ ?_ ?_, List.mem_cons_self .., _, hn₄, [], by simp, by simpa using hitL.symm,
    fun bad i m h => ∃ v, m "value" = some v ∧ m "function" = some (.ref fa) ∧ I (L :: bad) i v h, by simp, ?_, ?_, ?_, ?_⟩)))
  · rw [List.mem_cons]; rintro (q | q)
    · exact hitL q
    · exact fresh_notin B.frames hitn q
  · intro a m q
    obtain ⟨o, e⟩ := S.there a m
    rcases List.mem_cons.mp q with q | q
    · exact ex e q
    · exact hF0 a m q
  · intro b o m e
    have hbL : b ≠ L := by
      rcases List.mem_cons.mp m with rfl | m
      · exact hitL
      · obtain ⟨o, e⟩ := S.there b m; exact ex e
    exact hs₄.extBut b o hbL (hs₃.extBut b o hbL e)
  · intro bad h hbad kh
    refine ⟨.ref init, by walk_at "m", by walk_at "m", i0 _ _ (fun b m => ?_) fun b o e => kh b o (k₄ b o e)⟩
    rcases List.mem_cons.mp m with rfl | m
    · exact hLn
    · rcases hbad b m with q | q
      · rw [List.mem_singleton.mp q]; exact hitn
      · exact stays_none k₄ q
  · rintro bad i m h h' ⟨v, m1, m2, hI⟩ kk
    exact ⟨v, m1, m2, stable _ _ _ _ _ hI kk⟩
  · rintro bad i el m H₅ tk₅ E' hlt hel ⟨v, m1, m2, hI⟩ hn₅ r₅ hex hbad
    have B₅ := below_upd (X := [it]) B₄ r₅ hn₅ hbL (fun a m => by
      rw [List.mem_singleton.mp m]
      refine ⟨hbit, ?_⟩
      rw [fr_cons rfl, List.mem_cons]; rintro (q | q)
      · exact hitL q
      · exact fresh_notin B.frames hitn q)
    have r₀ : Ret [] (fr outer) s.heap H₅ := (Ret.leave (X := [it]) hL k₄ r₅).less (by intro a m; simp at m; subst m; exact .inr hitn)
    have hfL : fa ≠ L := ex hfo
    refine wpXS ?_
    intro env₀ A₀ E₀ Q₀ s₀
    refine wpAny_execs_cons (wpAny_Assign_Name (Call_of rfl (nL hn₅ (by walk_at "m") (sp1 (nL hn₅ (by walk_at "m") (sp1 (nL hn₅ (by walk_at "m") (sp0 ⟨keeps_func (r₀.keep _ _ (by simp) hff hfo) hfd, ?_⟩))))))))
    refine wpAny_mono (step _ L _ _ (L :: bad) i v el _ rfl hLn (.head _) hlt hel hI ?_ r₀ B₅ rfl hh (by show A.units + 3 ≤ _; walk_at "o")) (fun v' s'' h'' => ?_) fun _ _ e => e
    · intro b m
      rcases List.mem_cons.mp m with rfl | m
      · obtain ⟨o, _, _, e, _⟩ := hn₅; exact ⟨o, e⟩
      · exact hex b m
    obtain ⟨h₆, tk₆, rfl, r₆, hI₆⟩ := h''
    refine sL (r₆.ns hn₅ (by simp)) fun h₇ hn₇ hs₇ => wpAny_execs_nil ⟨_, h₇, _, rfl, hn₇, ⟨v', by walk_at "m", by walk_at "m", stable _ _ _ _ _ hI₆ fun b o nb e => hs₇.extBut b o (fun q => nb (by simp [q])) e⟩, ?_⟩
    exact (r₆.wide (by simp)).trans (.of_but hs₇.extBut (by simp))
  · rintro bad m h' tk hn₅ ⟨v, m1, m2, hI⟩ r₅ hbad
    refine wpXS ?_
    intro env₀ A₀ E₀ Q₀ s₀
    refine wpAny_execs_cons (wpAny_Return_some (nL hn₅ m1 (hQ _ v h' _ hI ?_)))
    exact (Ret.leave (X := [it]) hL k₄ r₅).less (by intro a m; simp at m; subst m; exact .inr hitn)
end
end Mine
end

section
open PySem PySem.W PyProof.Rows
set_option maxRecDepth 100000
set_option maxHeartbeats 4000000
namespace Mine
open PySem PySem.Spec PySem.Calls PyProof.Rows PySem.W

/-- a list of ints -/
noncomputable def IL (fs : List Addr) (h : Heap) (a : Addr) (ns : List Int) : Prop := ∃ vs, LS h a vs ∧ IntsAre vs ns ∧ a ∉ fs
theorem IL.ret {X fs : List Addr} {h h' : Heap} {a : Addr} {ns : List Int} (x : IL fs h a ns) (r : Ret X fs h h') (hX : a ∉ X) : IL fs h' a ns := by
  obtain ⟨vs, l, i, f⟩ := x; exact ⟨vs, l.ret r hX f, i, f⟩
theorem IL.at {fs : List Addr} {h h' : Heap} {a : Addr} {ns : List Int} (x : IL fs h a ns) (k : ∀ o, h.get? a = some o → h'.get? a = some o) : IL fs h' a ns := by
  obtain ⟨vs, l, i, f⟩ := x; exact ⟨vs, l.at k, i, f⟩
theorem IL.there {fs : List Addr} {h : Heap} {a : Addr} {ns : List Int} (x : IL fs h a ns) : ∃ o, h.get? a = some o := by obtain ⟨vs, l, _⟩ := x; exact l.there
theorem IL.less {fs : List Addr} {h : Heap} {a L : Addr} {ns : List Int} (x : IL (L :: fs) h a ns) : IL fs h a ns := by
  obtain ⟨vs, l, i, f⟩ := x; exact ⟨vs, l, i, fun m => f (.tail _ m)⟩
theorem IL.more {fs : List Addr} {h : Heap} {a L : Addr} {ns : List Int} (x : IL fs h a ns) (q : a ≠ L) : IL (L :: fs) h a ns := by
  obtain ⟨vs, l, i, f⟩ := x; exact ⟨vs, l, i, fun m => by rcases List.mem_cons.mp m with m | m; exact q m; exact f m⟩

theorem Ret.none {X fs : List Addr} {h h' : Heap} {a : Addr} (r : Ret X fs h h') (e : h'.get? a = none) (hX : a ∉ X) (hf : a ∉ fs) : h.get? a = none := by
  cases q : h.get? a with
  | none => rfl
  | some o => rw [r.keep a o hX hf q] at e; cases e
theorem cell_ret {X fs : List Addr} {h h' : Heap} {c : Addr} {v : Option Value} (x : h.IsCell c v) (r : Ret X fs h h') (hX : c ∉ X) (hf : c ∉ fs) : h'.IsCell c v := by
  obtain ⟨o, e, d⟩ := x; exact ⟨o, r.keep c o hX hf e, d⟩

/-- values that are lists of ints -/
noncomputable def Pr (fs : List Addr) (h : Heap) (vs : List Value) (nss : List (List Int)) : Prop := vs.length = nss.length ∧ ∀ (i : Nat) (v : Value), vs[i]? = some v → Ex2 fun (b : Addr) (ns : List Int) => v = .ref b ∧ nss[i]? = some ns ∧ IL fs h b ns
theorem Pr.nil {fs : List Addr} {h : Heap} : Pr fs h [] [] := ⟨rfl, fun i v q => by simp at q⟩
theorem Pr.snoc {fs : List Addr} {h : Heap} {vs : List Value} {nss : List (List Int)} {b : Addr} {ns : List Int} (p : Pr fs h vs nss) (q : IL fs h b ns) : Pr fs h (vs ++ [.ref b]) (nss ++ [ns]) := by
  refine ⟨by simp [p.1], fun i v e => ?_⟩
  rcases Nat.lt_trichotomy i vs.length with z | z | z
  · rw [List.getElem?_append_left z] at e
    obtain ⟨b', ns', e1, e2, e3⟩ := p.2 i v e
    exact ⟨b', ns', e1, by rw [List.getElem?_append_left (p.1 ▸ z)]; exact e2, e3⟩
  · subst z
    simp at e; subst e
    exact ⟨b, ns, rfl, by rw [p.1]; simp, q⟩
  · rw [List.getElem?_eq_none (by simp; walk_at "o")] at e; cases e
theorem Pr.mono {fs fs' : List Addr} {h h' : Heap} {vs : List Value} {nss : List (List Int)} (p : Pr fs h vs nss) (k : ∀ b ns, IL fs h b ns → IL fs' h' b ns) : Pr fs' h' vs nss :=
  ⟨p.1, fun i v q => by obtain ⟨b, ns, q1, q2, q3⟩ := p.2 i v q; exact ⟨b, ns, q1, q2, k b ns q3⟩⟩
theorem Pr.get {fs : List Addr} {h : Heap} {vs : List Value} {nss : List (List Int)} (p : Pr fs h vs nss) {i : Nat} {v : Value} (q : vs[i]? = some v) : Ex2 fun (b : Addr) (ns : List Int) => v = .ref b ∧ nss[i]? = some ns ∧ IL fs h b ns := p.2 i v q

/-- a list of lists of ints -/
noncomputable def LL (fs : List Addr) (h : Heap) (a : Addr) (nss : List (List Int)) : Prop := ∃ vs, LS h a vs ∧ a ∉ fs ∧ Pr fs h vs nss
theorem LL.ret {X fs : List Addr} {h h' : Heap} {a : Addr} {nss : List (List Int)} (x : LL fs h a nss) (r : Ret X fs h h') (hX : ∀ b ∈ X, h.get? b = none) : LL fs h' a nss := by
  obtain ⟨vs, l, f, p⟩ := x
  have nx : ∀ {b : Addr}, (∃ o, h.get? b = some o) → b ∉ X := fun ⟨o, q⟩ m => by rw [hX _ m] at q; cases q
  exact ⟨vs, l.ret r (nx l.there) f, f, p.mono fun b ns q3 => q3.ret r (nx q3.there)⟩
theorem IL.ret' {X fs : List Addr} {h h' : Heap} {a : Addr} {ns : List Int} (x : IL fs h a ns) (r : Ret X fs h h') (hX : ∀ b ∈ X, b ∈ fs ∨ h.get? b = none) : IL fs h' a ns :=
  x.ret r fun m => by
    rcases hX a m with q | q
    · obtain ⟨_, _, _, f⟩ := x; exact f q
    · obtain ⟨_, e⟩ := x.there; rw [q] at e; cases e
theorem LL.ret' {X fs : List Addr} {h h' : Heap} {a : Addr} {nss : List (List Int)} (x : LL fs h a nss) (r : Ret X fs h h') (hX : ∀ b ∈ X, b ∈ fs ∨ h.get? b = none) : LL fs h' a nss := by
  obtain ⟨vs, l, f, p⟩ := x
  have nx : ∀ {b : Addr}, (∃ o, h.get? b = some o) → b ∉ fs → b ∉ X := fun ⟨o, q⟩ f m => by
    rcases hX _ m with z | z
    · exact f z
    · rw [z] at q; cases q
  exact ⟨vs, l.ret r (nx l.there f) f, f, p.mono fun b ns q3 => q3.ret' r hX⟩
theorem LL.more {fs : List Addr} {h : Heap} {a L : Addr} {nss : List (List Int)} (x : LL fs h a nss) (q : h.get? L = none) : LL (L :: fs) h a nss := by
  obtain ⟨vs, l, f, p⟩ := x
  have nL : ∀ {b : Addr}, (∃ o, h.get? b = some o) → b ≠ L := fun ⟨o, z⟩ m => by rw [m, q] at z; cases z
  refine ⟨vs, l, fun m => ?_, p.mono fun b ns q3 => q3.more (nL q3.there)⟩
  rcases List.mem_cons.mp m with m | m
  · exact nL l.there m
  · exact f m
theorem LL.less {fs : List Addr} {h : Heap} {a L : Addr} {nss : List (List Int)} (x : LL (L :: fs) h a nss) : LL fs h a nss := by
  obtain ⟨vs, l, f, p⟩ := x
  exact ⟨vs, l, fun m => f (.tail _ m), p.mono fun b ns q => q.less⟩
theorem LL.stays {fs : List Addr} {h h' : Heap} {a : Addr} {nss : List (List Int)} (x : LL fs h a nss) (k : h.StaysIn h') : LL fs h' a nss := x.ret (X := []) (.of_stays k) (by simp)
theorem LL.there {fs : List Addr} {h : Heap} {a : Addr} {nss : List (List Int)} (x : LL fs h a nss) : ∃ o, h.get? a = some o := by obtain ⟨vs, l, _⟩ := x; exact l.there

section
variable {w : World} {mg mb : Str → Option Value} {hb : Heap} {prog : Program} {A : Around} {outer : List Env} {s : Shared} {E : Value → Shared → Prop}
variable {env : Env} {L : Addr} {x : Str} {pos : Pos} {v : Value} {Q : Value → Shared → Prop} {M : Model} {m : Str → Option Value}

theorem gL (hn : s.heap.Ns L m) (hv : m x = some v) (h : Q v s) (hL : env.locals = L := by rfl) (hk : env.scope.kind = .function := by rfl) (hx : env.kindOf x = some .local := by rfl) (hd : (x == ("__debug__" : Str)) = false := by decide) :
    wpAny M A (eval (.Name x pos) env) Q E s := by subst hL; exact wpAny_Name (wpAny_loadName_local hk hx hn hv h) hd
theorem gG (H : Bs w mg mb hb) (k : hb.StaysIn s.heap) (e : nsIn (TopF w.params) mainGlobals x = some (some v)) (h : Q v s) (hg : env.globals = mainGlobals := by rfl)
    (hk : env.scope.kind = .function := by rfl) (hx : env.kindOf x = some .globalImplicit := by rfl) (hd : (x == ("__debug__" : Str)) = false := by decide) :
    wpAny M A (eval (.Name x pos) env) Q E s := Name_function_global hk hx (loadGlobal_global (env := env) (hg ▸ H.g.keeps k) (mg_of H.X H.g e) h) hd
theorem gB (H : Bs w mg mb hb) (k : hb.StaysIn s.heap) (e : nsIn (TopF w.params) mainGlobals x = some none) (hv : bootBuiltins x = some v) (h : Q v s) (hn : x ≠ "__name__" := by decide +kernel) (hg : env.globals = mainGlobals := by rfl) (hbb : env.builtins = builtinsNs := by rfl)
    (hk : env.scope.kind = .function := by rfl) (hx : env.kindOf x = some .globalImplicit := by rfl) (hd : (x == ("__debug__" : Str)) = false := by decide) :
    wpAny M A (eval (.Name x pos) env) Q E s :=
  Name_function_global hk hx (loadGlobal_builtin (env := env) (hg ▸ H.g.keeps k) (mg_none_of H.X H.g e) (hbb ▸ H.b.keeps k) ((H.blt x hn).trans hv) h) hd
theorem gC {c : Addr} (hc : env.cells.lookup x = some c) (hv : s.heap.IsCell c (some v)) (h : Q v s) (hk : env.scope.kind = .function := by rfl) (hx : env.kindOf x = some .cell := by rfl) (hd : (x == ("__debug__" : Str)) = false := by decide) :
    wpAny M A (eval (.Name x pos) env) Q E s := wpAny_Name (wpAny_loadName_cell hk hx hc hv h) hd
theorem gF {c : Addr} (hc : env.cells.lookup x = some c) (hv : s.heap.IsCell c (some v)) (h : Q v s) (hk : env.scope.kind = .function := by rfl) (hx : env.kindOf x = some .free := by rfl) (hcl : (x == ("__classdict__" : Str)) = false := by decide) (hd : (x == ("__debug__" : Str)) = false := by decide) :
    wpAny M A (eval (.Name x pos) env) Q E s := wpAny_Name (wpAny_loadName_free hk hx hc hv h hcl) hd

theorem tests0 {Q : Bool → Shared → Prop} (h : Q true s) : wpAny M A (testsOf [] env) Q E s := by
  show wpAny M A (forIn [] true _) Q E s
  rw [List.forIn_nil]; exact wpAny_pure h
theorem tests1 {c : Expr} {Q : Bool → Shared → Prop} (h : wpAny M A (isTrue c env (eval c env)) Q E s) : wpAny M A (testsOf [c] env) Q E s := by
  show wpAny M A (forIn [c] true _) Q E s
  rw [List.forIn_cons]
  refine wpAny_bind ?_
  rw [if_pos rfl]
  refine wpAny_bind (wpAny_mono h (fun b s' h' => wpAny_pure ?_) fun _ _ e => e)
  dsimp only
  rw [List.forIn_nil]
  exact wpAny_pure h'

/-- a def of the top with cells is entered -/
theorem enterK {f : Addr} {args : List Value} {binds : List (Str × Value)} {oc : Value} {od : Option Addr} {osl : Array (Option Value)} {name qual : Str} {params : Arguments} {body : List Stmt} {scope : Scope} {dV kV doc pm cdv ct : Value} {an : Option Addr}
    {Q : Value → Shared → Prop} {E : Value → Shared → Prop}
    (H : Bs w mg mb hb) (B : Below A hb outer s.heap) (hroom : A.depth < recursionLimit)
    (ho : (TopF w.params).lookup f = some ⟨oc, od, .func (fnX name qual params body scope [] dV kV doc pm an cdv ct), osl⟩)
    (hcd : codeIn (TopF w.params) cdv qual = true)
    (hbind : BindsTo s (fnX name qual params body scope [] dV kV doc pm an cdv ct) ⟨args, []⟩ binds)
    (hkind : ∀ n, ∀ x ∈ binds, scope.names.lookup x.1 = some .local ∨ (scope.names.lookup x.1 = some .cell ∧ ((cellsFrom n scope.names []).lookup x.1).isSome = true))
    (h : ∀ L h₁ tk, L = s.heap.objs.size → h₁.Ns L (bindL (envX qual scope L f cdv (cellsFrom (L + 1) scope.names [])).kindOf binds fun _ => none) →
      (∀ n c, (cellsFrom (L + 1) scope.names []).lookup n = some c → h₁.IsCell c (bindC (envX qual scope L f cdv (cellsFrom (L + 1) scope.names [])).kindOf binds (fun _ => none) n) ∧ L < c) → s.heap.StaysIn h₁ →
      Below (A.deeper (envX qual scope L f cdv (cellsFrom (L + 1) scope.names []))) hb (envX qual scope L f cdv (cellsFrom (L + 1) scope.names []) :: outer) h₁ →
      wpAny (model prog w) (A.deeper (envX qual scope L f cdv (cellsFrom (L + 1) scope.names []))) (execs body (envX qual scope L f cdv (cellsFrom (L + 1) scope.names [])))
        (fun fl s' => Q (match fl with | .ret v => v | _ => .none) s')
        (fun e s' => wpAny (model prog w) (A.deeper (envX qual scope L f cdv (cellsFrom (L + 1) scope.names []))) (leaving (envX qual scope L f cdv (cellsFrom (L + 1) scope.names [])) e) (fun _ s'' => E e s'') (fun e' s'' => E e' s'') s')
        { s with heap := h₁, toks := tk })
    (hco : scope.isCoroutine = false := by rfl) (hgen : scope.isGenerator = false := by rfl) (hk : scope.kind = .function := by rfl) :
    wpAny (model prog w) A (call (.ref f) args) Q E s := by
  refine wpAny_call (codeAny_call_function hroom (B.stays _ _ (H.X _ _ ho)) rfl hco hgen rfl (codeRec_of (H.X.keeps B.stays) hcd) (hbind _ _ _ _ ?_))
  refine wpAny_newFunctionEnv_cells hk (hkind _) fun env' he s' x => ?_
  subst he
  refine ⟨(H.lim.keeps B.stays).keeps x.toInCall.keep, codeAny_func ?_⟩
  obtain ⟨h₁, tk, rfl, _⟩ := x.done
  exact h _ h₁ tk rfl x.toInCall.ns (fun n c e => ⟨x.cell n c e, x.above n c (mem_of_lookup e)⟩) x.toInCall.keep (below_push B rfl (by show scope.kind ≠ _; rw [hk]; decide) rfl x.toInCall.keep x.toInCall.ns)
end
end Mine
end

section
open PySem PySem.W PyProof.Rows
set_option maxRecDepth 100000
set_option maxHeartbeats 4000000
namespace Mine
open PySem PySem.Spec PySem.Calls PyProof.Rows PySem.W

noncomputable def sharedL (lks : List (List Int)) (on hn : List Int) : List Int := (lks.filter fun k => decide (filt hn k = hn)).foldl filt on
theorem filt_len (a b : List Int) : (filt a b).length ≤ a.length := List.length_filter_le _ _
theorem foldfilt_len : ∀ (l : List (List Int)) (a : List Int), (l.foldl filt a).length ≤ a.length
  | [], a => Nat.le_refl _
  | k :: l, a => Nat.le_trans (foldfilt_len l _) (filt_len a k)
theorem take_succ_filter {α : Type} (p : α → Bool) (l : List α) (i : Nat) (a : α) (e : l[i]? = some a) : (l.take (i + 1)).filter p = (l.take i).filter p ++ if p a then [a] else [] := by
  rw [List.take_add_one, e, List.filter_append]
  congr 1
  simp [List.filter_cons]
theorem take_succ_fold (l : List (List Int)) (i : Nat) (a x : List Int) (e : l[i]? = some a) : (l.take (i + 1)).foldl filt x = filt ((l.take i).foldl filt x) a := by
  rw [List.take_add_one, e, List.foldl_append]; rfl

section
variable {w : World} {mg mb : Str → Option Value} {hb : Heap} {prog : Program} {A : Around} {outer : List Env} {s : Shared} {E : Value → Shared → Prop}

theorem shared_fn {l o hl : Addr} {lks : List (List Int)} {on hn : List Int} {Q : Value → Shared → Prop}
    (H : Bs w mg mb hb) (B : Below A hb outer s.heap) (hd : A.depth + 6 < recursionLimit) (hh : A.handled = none) (hu : A.units + 200 < cLine)
    (hL : LL (fr outer) s.heap l lks) (hO : IL (fr outer) s.heap o on) (hH : IL (fr outer) s.heap hl hn) (b1 : on.length ≤ 1000) (b2 : hn.length ≤ 1000) (b3 : lks.length ≤ 1000)
    (h : ∀ r h' tk, (r = o ∨ s.heap.get? r = none) → IL (fr outer) h' r (sharedL lks on hn) → Ret [] (fr outer) s.heap h' → Q (.ref r) { s with heap := h', toks := tk }) :
    wpAny (model prog w) A (call (.ref 123) [.ref l, .ref o, .ref hl]) Q E s := by
  have ho : (TopF w.params).lookup 123 = some ⟨_, _, .func (fnX _ _ _ _ _ _ _ _ _ _ _ _ _), _⟩ := rfl
  refine enterK (binds := [("lacks", .ref l), ("order", .ref o), ("held", .ref hl)]) H B (by walk_at "o") ho (by kernel_rfl) (BindsTo.of_eq rfl) (fun n => kinds_of (by kinds_ok)) fun L h₁ tk hLs hnn hc k B₁ => ?_
  clear ho
  have hcl : h₁.IsCell (L + 1) (some (.ref hl)) := (hc "held" (L + 1) rfl).1
  clear hc
  have hLn : s.heap.get? L = none := Heap.get?_none_of_le (by rw [hLs]; exact Nat.le_refl _)
  have ex : ∀ {a : Addr}, (∃ o, s.heap.get? a = some o) → a ≠ L := fun ⟨_, e⟩ q => by rw [q, hLn] at e; cases e
  have hL₁ := (hL.more hLn).stays k
  have hO₁ : IL (L :: fr outer) h₁ o on := (hO.more (ex hO.there)).at (k o)
  have hH₁ : IL (L :: fr outer) h₁ hl hn := (hH.more (ex hH.there)).at (k hl)
  have hFS : ∀ b ∈ L :: fr outer, ∃ o, h₁.get? b = some o := fun b m => by
    obtain ⟨_, o, e, _⟩ := fr_there B₁.frames (a := b) (by rw [fr_cons rfl]; exact m)
    exact ⟨o, e⟩
  have hcf : L + 1 ∉ L :: fr outer := by
    rw [List.mem_cons]; rintro (q | q)
    · exact absurd q (by simp)
    · obtain ⟨_, o'', e'', _⟩ := fr_there B.frames q
      exact absurd (Heap.lt_size e'') (by rw [hLs]; exact Nat.not_lt.mpr (Nat.le_succ _))
  obtain ⟨lv, lls, llf, lpr⟩ := hL₁
  refine wpXS ?_
  intro env₀ A₀ E₀ Q₀ s₀
  refine wpAny_execs_cons (wpAny_Return_some (Call_of rfl (gG (v := .ref 111) H B₁.stays (by kernel_rfl) (sp1 (gG (v := .ref 65) H B₁.stays (by kernel_rfl) (sp1 ?_))))))
  refine ListComp_of (cl := [("held", L + 1)]) (FS := L :: fr outer) (W0 := []) rfl (by decide) rfl (by decide) rfl (gL hnn rfl ⟨lv.length, _, _, Src.list hh lls llf hFS, ?_, hFS,
    fun bad i ys h => Pr (L :: fr outer) h₁ ys ((lks.take i).filter fun k => decide (filt hn k = hn)), fun bad h => by simpa using Pr.nil, fun bad i ys h h' p _ => p, ?_, ?_⟩)
  · rw [lpr.1, sizeLine_eq]; omega
  · intro bad C i v ys s₃ m₃ E' hi hv hP hnC hmx r hbad hbad2 hCb
    obtain ⟨b, ns, rfl, e2, e3⟩ := lpr.get hv
    have hlL := r.ns hnn (by simp)
    have B₃ := below_ret B₁ r
    have cell₃ := cell_ret hcl r (by simp) hcf
    have hH₃ := hH₁.ret r (by simp)
    have e3' := e3.ret r (by simp)
    obtain ⟨hv', hls, hia, hnf⟩ := hH₃
    obtain ⟨bv, bls, bia, bnf⟩ := e3'
    have fob : (TopF w.params).lookup 65 = some ⟨_, _, .func (fnX _ _ _ _ _ _ _ _ _ _ _ _ _), _⟩ := rfl
    refine tests1 (wpAny_isTrue_Compare1 (Call_of rfl (gG (v := .ref 65) H B₃.stays (by kernel_rfl) (sp1 (gC rfl cell₃ (sp1 (gL hnC hmx (sp0 ⟨keeps_func (B₃.stays _ _ (H.X _ _ fob)) rfl, ?_⟩))))))))
    refine filter_fn H B₃ (by show A.depth + 1 + 2 < _; walk_at "o") hh hls bls hia bia (fun a m => ?_) (by walk_at "o") fun f vr h₄ tk₄ hfn hfl hfi r₄ => ?_
    · rw [fr_cons rfl]
      simp only [List.mem_cons, List.not_mem_nil, or_false] at m
      rcases m with rfl | rfl
      · exact hnf
      · exact bnf
    have cell₄ := cell_ret cell₃ r₄ (by simp) hcf
    have hH₄ : LS h₄ hl hv' := hls.ret r₄ (by simp) hnf
    refine gC rfl cell₄ (ke_eq_ints hfl.il hH₄.il hfi hia (by show A.units + 3 + 64 < _; walk_at "o") (wpAny_truthy_bool ⟨h₄, tk₄, rfl, r₄, ?_⟩))
    have nx := take_succ_filter (fun k => decide (filt hn k = hn)) lks i ns e2
    show if decide (filt hn ns = hn) = true then _ else Pr (L :: fr outer) h₁ ys (List.filter _ (List.take (i + 1) lks))
    cases hdc : decide (filt hn ns = hn) with
    | false =>
      rw [if_neg (by decide), nx, hdc]; simpa using hP
    | true =>
      rw [if_pos rfl]
      refine gL (r₄.ns hnC ?_) hmx ⟨h₄, tk₄, rfl, .refl, ?_⟩
      · simp
      · show Pr (L :: fr outer) h₁ _ (List.filter _ (List.take (i + 1) lks))
        rw [nx, hdc]; exact hP.snoc e3
  · intro bad D ys h₂ tk₂ hDn hDl hP r₂
    have B₂ := below_ret B₁ r₂
    have hP' : Pr (L :: fr outer) h₁ ys (lks.filter fun k => decide (filt hn k = hn)) := by
      have := hP
      rwa [lpr.1, List.take_length] at this
    have hP₂ : Pr (L :: fr outer) h₂ ys (lks.filter fun k => decide (filt hn k = hn)) := hP'.mono fun b ns q => q.ret r₂ (by simp)
    have hO₂ := hO₁.ret r₂ (by simp)
    obtain ⟨ov, ols, oia, onf⟩ := hO₂
    have hDf : D ∉ L :: fr outer := fresh_notin B₁.frames hDn
    have fob : (TopF w.params).lookup 111 = some ⟨_, _, .func (fnX _ _ _ _ _ _ _ _ _ _ _ _ _), _⟩ := rfl
    have fob2 : (TopF w.params).lookup 65 = some ⟨_, _, .func (fnX _ _ _ _ _ _ _ _ _ _ _ _ _), _⟩ := rfl
    have fob2' := B₂.stays _ _ (H.X _ _ fob2)
    have fob2n : 65 ∉ L :: fr outer := fun q => by
      have := (fr_there B₁.frames (a := 65) (by rw [fr_cons rfl]; exact q)).1
      rw [H.X _ _ fob2] at this; cases this
    refine sp1 (gL (r₂.ns hnn (by simp)) rfl (sp0 ⟨keeps_func (B₂.stays _ _ (H.X _ _ fob)) rfl, ?_⟩))
    clear fob fob2
    refine reduce_fn (fun av i v h => ∃ r, v = .ref r ∧ IL (L :: fr outer) h r (((lks.filter fun k => decide (filt hn k = hn)).take i).foldl filt on) ∧ r ∉ av ∧ (r = o ∨ h₂.get? r = none))
      H B₂ (by show A.depth + 1 < _; walk_at "o") hh rfl fob2' rfl fob2n ols (ItSrc.list hDl) (fun a m => by rw [List.mem_singleton.mp m]; exact hDf) ?_ ?_ ?_ ?_
    · intro av h' hav kh
      refine ⟨o, rfl, ⟨ov, ols.at (kh o), oia, onf⟩, fun m => ?_, .inl rfl⟩
      obtain ⟨_, e⟩ := ols.there
      rw [hav o m] at e; cases e
    · rintro av i v h h' ⟨r, rfl, hr, hra, hro⟩ kk
      exact ⟨r, rfl, hr.at fun o e => kk r o hra e, hra, hro⟩
    · rintro env' L' A' s' av i v el E' hf' hL' hLav hi hel ⟨r, rfl, hr, hra, hro⟩ hex r₃ B' hdep hh' _
      obtain ⟨b, ns, rfl, e2, e3⟩ := hP₂.get hel
      have hbL : b ≠ L' := fun q => by obtain ⟨_, z⟩ := e3.there; rw [q, hL'] at z; cases z
      obtain ⟨rv, rls, ria, rnf⟩ := hr
      obtain ⟨bv, bls, bia, bnf⟩ := e3.ret r₃ (by simp)
      have lenr : (((lks.filter fun k => decide (filt hn k = hn)).take i).foldl filt on).length ≤ 1000 := Nat.le_trans (foldfilt_len _ _) b1
      refine filter_fn H B' (by rw [hdep]; show A.depth + 1 + 1 + 2 < _; walk_at "o") hh' rls bls ria bia (fun a m => ?_) lenr fun f vr h'' tk'' hfn hfl hfi rr => ⟨h'', tk'', rfl, rr, f, rfl, ⟨vr, hfl, ?_, fun q => ?_⟩, fun q => ?_, .inr ?_⟩
      · rw [fr_cons hf', fr_cons rfl]
        simp only [List.mem_cons, List.not_mem_nil, or_false] at m ⊢
        rcases m with rfl | rfl
        · rintro (q | q | q)
          · exact hra (q ▸ hLav)
          · exact rnf (by simp [q])
          · exact rnf (by simp [q])
        · rintro (q | q | q)
          · exact hbL q
          · exact bnf (by simp [q])
          · exact bnf (by simp [q])
      · rw [take_succ_fold _ _ _ _ e2]; exact hfi
      · exact fresh_notin B'.frames hfn (by rw [fr_cons hf', fr_cons rfl]; exact .tail _ q)
      · obtain ⟨_, z⟩ := hex f q; rw [hfn] at z; cases z
      · refine r₃.none hfn (by simp) fun q => ?_
        exact fresh_notin B'.frames hfn (by rw [fr_cons hf']; exact .tail _ q)
    · rintro av v h' tk' ⟨r, rfl, hr, hra, hro⟩ r₃
      have rr := Ret.leave (X := []) hLs k ((r₂.trans r₃).wide (by simp))
      refine h r h' _ ?_ ?_ rr
      · rcases hro with rfl | hro
        · exact .inl rfl
        · right
          have nf : r ∉ L :: fr outer := by obtain ⟨_, _, _, q⟩ := hr; exact q
          exact stays_none k (r₂.none hro (by simp) nf)
      · have e : ys.length = (lks.filter fun k => decide (filt hn k = hn)).length := hP₂.1
        rw [e, List.take_length] at hr
        exact hr.less
end
end Mine
end

section
open PySem PySem.W PyProof.Rows
set_option maxRecDepth 100000
set_option maxHeartbeats 4000000
namespace Mine
open PySem PySem.Spec PySem.Calls PyProof.Rows PySem.W

section
variable {M : Model} {A : Around} {E : Value → Shared → Prop} {s : Shared} {env : Env} {Q : Value → Shared → Prop}

theorem subscripted_is (slice : Expr) (o i : Value) : ∃ ops, subscripted slice false o i = operate ops (getItem o i) := by
  unfold subscripted
  split
  · exact ⟨_, rfl⟩
  · rename_i h; cases h
  · exact ⟨_, rfl⟩

end

section
variable {prog : Program} {w : World} {A : Around} {E : Value → Shared → Prop} {s : Shared} {env : Env} {Q : Value → Shared → Prop}

theorem SubTail {value slice : Expr} {o i : Value} {T id : String} (hT : s.TypeIs o T) (hl : typeLookup (.type T) "__getitem__" = pure (some (.builtin id))) (h : wpAny (model prog w) A (getItem o i) Q E s) :
    wpAny (model prog w) A (subscriptTail value slice o i) Q E s := by
  obtain ⟨ops, hs⟩ := subscripted_is slice o i
  unfold subscriptTail
  refine wpAny_bind ?_
  rw [getitemInPython_of_ne hT.not_modules]
  refine wpAny_bind (wpAny_specialOf hT hl ?_)
  have fin : wpAny (model prog w) A (subscripted slice false o i) (fun r s₃ => wpAny (model prog w) A (letTemporaryGo value o r >>= fun _ => pure r) Q E s₃) E s := by
    rw [hs]
    exact wpAny_operating (wpAny_mono h (fun r s₃ h₃ => wpAny_bind (wpAny_letTemporaryGo (wpAny_pure h₃))) fun _ _ x => x)
  first
    | exact wpAny_pure (wpAny_bind fin)
    | exact wpAny_bind (wpAny_pure (wpAny_bind fin))
    | exact wpAny_bind fin

/-- a list's slice -/
theorem Sub_slice {value : Expr} {lower upper step : Option Expr} {p pos : Pos}
    (h : wpAny (model prog w) A (eval value env) (fun o s₁ => wpAny (model prog w) A (evalPart lower env) (fun vl s₂ => wpAny (model prog w) A (evalPart upper env) (fun vu s₃ => wpAny (model prog w) A (evalPart step env) (fun vk s₄ =>
      Ex5 fun l items lo hi st => o = .ref l ∧ LS s₄.heap l items ∧ items.length ≤ sizeLine ∧ IsPart vl lo ∧ IsPart vu hi ∧ IsPart vk st ∧ st ≠ some 0 ∧
        (∀ D h', s₄.heap.StaysIn h' → s₄.heap.get? D = none → LS h' D (slicePick items.toArray lo hi st).toList → Q (.ref D) { s₄ with heap := h' })) E s₃) E s₂) E s₁) E s) :
    wpAny (model prog w) A (eval (.Subscript value (.Slice lower upper step p) pos) env) Q E s := by
  refine Subscript_ (wpAny_mono h (fun o s₁ h₁ => wpAny_Slice (wpAny_mono h₁ (fun vl s₂ h₂ => wpAny_mono h₂ (fun vu s₃ h₃ => wpAny_mono h₃ (fun vk s₄ h₄ => ?_) fun _ _ e => e) fun _ _ e => e) fun _ _ e => e)) fun _ _ e => e)
  obtain ⟨l, items, lo, hi, st, rfl, hl, hz, pl, pu, pk, h0, hQ⟩ := h₄
  have hl' := hl.il.push { cls := .type "slice", data := .fields #[vl, vu, vk] }
  refine SubTail (Heap.IsList.typeIs (s := { s₄ with heap := s₄.heap.push { cls := .type "slice", data := .fields #[vl, vu, vk] } }) hl') list_getitem_lookup (wpAny_getItem_list_slice hl' (Heap.IsSliceOf.new ..) pl pu pk h0 ?_ (by simpa using hz))
  refine hQ _ _ (fun b o e => Heap.get?_push_of_some _ (Heap.get?_push_of_some _ e)) (Heap.get?_none_of_le ?_) ⟨0, Heap.get?_push_size _ rfl⟩
  show s₄.heap.objs.size ≤ (s₄.heap.push _).objs.size
  rw [Heap.size_push]; exact Nat.le_succ _

/-- a list's item -/
theorem Sub_item {value slice : Expr} {pos : Pos}
    (h : wpAny (model prog w) A (eval value env) (fun o s₁ => wpAny (model prog w) A (eval slice env) (fun i s₂ => Ex5 fun l items k t x => o = .ref l ∧ i = .int k t ∧ LS s₂.heap l items ∧ 0 ≤ k ∧ k < 2 ^ 63 ∧ items[k.toNat]? = some x ∧ Q x s₂) E s₁) E s) :
    wpAny (model prog w) A (eval (.Subscript value slice pos) env) Q E s := by
  refine Subscript_ (wpAny_mono h (fun o s₁ h₁ => wpAny_mono h₁ (fun i s₂ h₂ => ?_) fun _ _ e => e) fun _ _ e => e)
  obtain ⟨l, items, k, t, x, rfl, rfl, hl, h0, h1, hx, hQ⟩ := h₂
  exact SubTail hl.il.typeIs list_getitem_lookup (wpAny_getItem_list hl.il h0 h1 (by simpa using hx) hQ)

/-- two lists joined -/
theorem add_ll {l b : Addr} {vs ws : List Value} (hl : LS s.heap l vs) (hb : LS s.heap b ws) (hz : vs.length + ws.length ≤ sizeLine)
    (h : ∀ D h', s.heap.StaysIn h' → s.heap.get? D = none → LS h' D (vs ++ ws) → Q (.ref D) { s with heap := h' }) : wpAny (model prog w) A (binaryOp .Add (.ref l) (.ref b)) Q E s := by
  obtain ⟨n, e⟩ := hl
  obtain ⟨n', e'⟩ := hb
  refine P.add_list e e' (h _ _ (fun b o e => Heap.get?_push_of_some _ e) (Heap.get?_none_of_le (Nat.le_refl _)) ⟨0, ?_⟩) (by simpa using hz)
  rw [List.append_toArray]
  exact Heap.get?_push_size _ rfl

/-- a list display -/
theorem Disp {elts : List Expr} {pos : Pos} (h : wpAny (model prog w) A (spliced (backTo pos (starEach elts env))) (fun vs s₁ => vs.length ≤ sizeLine ∧
      ∀ D h', s₁.heap.StaysIn h' → s₁.heap.get? D = none → LS h' D vs → Q (.ref D) { s₁ with heap := h' }) E s) : wpAny (model prog w) A (eval (.List elts pos) env) Q E s :=
  wpAny_List (wpAny_mono h (fun vs s₁ h₁ => ⟨h₁.1, h₁.2 _ _ (fun b o e => Heap.get?_push_of_some _ e) (Heap.get?_none_of_le (Nat.le_refl _)) ⟨0, Heap.get?_push_size _ rfl⟩⟩) fun _ _ e => e)

theorem IntsAre.rev {vs : List Value} {ns : List Int} (h : IntsAre vs ns) : IntsAre vs.reverse ns.reverse := h.reverse
end
end Mine
end

section
open PySem PySem.W PyProof.Rows
set_option maxRecDepth 100000
set_option maxHeartbeats 4000000
namespace Mine
open PySem PySem.Spec PySem.Calls PyProof.Rows PySem.W

noncomputable def nextL (lks : List (List Int)) (on : List Int) : List Int → List Int → Option (List Int)
  | [], _ => none
  | m :: ms, held => if m ∈ held then nextL lks on ms (filt held [m]) else if m ∈ filt (sharedL lks on (held ++ [m])) held ∧ (filt (sharedL lks on (held ++ [m])) held)[0]? = some m then some (sharedL lks on (held ++ [m])) else nextL lks on ms held

theorem mem_filt {a b : List Int} {x : Int} : x ∈ filt a b ↔ x ∈ a ∧ x ∉ b := by simp [filt]
theorem mem_foldfilt : ∀ (l : List (List Int)) (a : List Int) (x : Int), x ∈ l.foldl filt a ↔ x ∈ a ∧ ∀ k ∈ l, x ∉ k
  | [], a, x => by simp
  | k :: l, a, x => by
    rw [List.foldl_cons, mem_foldfilt l, mem_filt]
    simp [and_assoc]
theorem mem_shared {lks : List (List Int)} {on hn : List Int} {x : Int} : x ∈ sharedL lks on hn ↔ x ∈ on ∧ ∀ k ∈ lks, filt hn k = hn → x ∉ k := by
  simp [sharedL, mem_foldfilt, List.mem_filter]
theorem filt_eq_self {a b : List Int} : filt a b = a ↔ ∀ x ∈ a, x ∉ b := by
  unfold filt; rw [List.filter_eq_self]; simp
theorem shared_has {lks : List (List Int)} {on held : List Int} {m : Int} (h : m ∈ on) : m ∈ sharedL lks on (held ++ [m]) :=
  mem_shared.mpr ⟨h, fun k _ e => filt_eq_self.mp e m (by simp)⟩
theorem shared_len (lks : List (List Int)) (on held : List Int) : (sharedL lks on held).length ≤ on.length := foldfilt_len _ _

theorem ints_at {vs : List Value} {ns : List Int} (h : IntsAre vs ns) : ∀ {j : Nat} {v : Value}, vs[j]? = some v → Ex2 fun n t => v = .int n t ∧ ns[j]? = some n := by
  induction h with
  | nil => intro j n q; simp at q
  | cons n t _ ih =>
    intro j v q
    cases j with
    | zero => simp at q; subst q; exact ⟨n, t, rfl, rfl⟩
    | succ j => simpa using ih (by simpa using q)
theorem fr_bar {A : Around} {hb h : Heap} {outer : List Env} (B : Below A hb outer h) {a : Addr} (e : (∃ o, hb.get? a = some o)) : a ∉ fr outer := fun m => by
  obtain ⟨o, e⟩ := e; rw [(fr_there B.frames m).1] at e; cases e

section
variable {w : World} {mg mb : Str → Option Value} {hb : Heap} {prog : Program} {A : Around} {outer : List Env} {s : Shared} {E : Value → Shared → Prop}

theorem next_fn {l o hl : Addr} {lks : List (List Int)} {on hn : List Int} {Q : Value → Shared → Prop}
    (H : Bs w mg mb hb) (B : Below A hb outer s.heap) (hd : A.depth + 8 < recursionLimit) (hh : A.handled = none) (hu : A.units + 300 < cLine)
    (hL : LL (fr outer) s.heap l lks) (hO : IL (fr outer) s.heap o on) (hH : IL (fr outer) s.heap hl hn) (b1 : on.length ≤ 900) (b2 : hn.length ≤ 900) (b3 : lks.length ≤ 900)
    (h : ∀ r h' tk, s.heap.get? r = none → LL (fr outer) h' r (match nextL lks on on.reverse hn with | some wd => [wd] | none => []) → (∀ av : List Addr, (∀ b ∈ av, ∃ ob, s.heap.get? b = some ob) → o ∉ av → LL (av ++ fr outer) h' r (match nextL lks on on.reverse hn with | some wd => [wd] | none => [])) → Ret [] (fr outer) s.heap h' → Q (.ref r) { s with heap := h', toks := tk }) :
    wpAny (model prog w) A (call (.ref 130) [.ref l, .ref o, .ref hl]) Q E s := by
  have ho : (TopF w.params).lookup 130 = some ⟨_, _, .func (fnX _ _ _ _ _ _ _ _ _ _ _ _ _), _⟩ := rfl
  refine enter (binds := [("lacks", .ref l), ("order", .ref o), ("held", .ref hl)]) H B (by walk_at "o") ho (by kernel_rfl) (BindsTo.of_eq rfl) (locs rfl) (by decide) fun L h₁ hLs hn₁ k B₁ => ?_
  clear ho
  have hLn : s.heap.get? L = none := Heap.get?_none_of_le (by rw [hLs]; exact Nat.le_refl _)
  have ex : ∀ {a : Addr}, (∃ o, s.heap.get? a = some o) → a ≠ L := fun ⟨_, e⟩ q => by rw [q, hLn] at e; cases e
  have hbL : hb.get? L = none := (fr_there B₁.frames (.head _)).1
  have hL₁ := (hL.more hLn).stays k
  have hO₁ : IL (L :: fr outer) h₁ o on := (hO.more (ex hO.there)).at (k o)
  have hH₁ : IL (L :: fr outer) h₁ hl hn := (hH.more (ex hH.there)).at (k hl)
  obtain ⟨ov, ols, oia, onf⟩ := id hO₁
  refine wpXS ?_
  intro env₀ A₀ E₀ Q₀ s₀
  refine wpAny_execs_cons (For_of (L := L) (FS := L :: fr outer) (W0 := []) rfl rfl (by rfl) (Sub_slice ?_))
  refine gL hn₁ (by walk_at "m") (wpAny_pure (wpAny_pure (wpAny_UnaryOp (wpAny_Constant_int (neg_int ⟨o, ov, _, _, _, rfl, ols, by rw [oia.length, sizeLine_eq]; omega, .none, .none, .int _ _, by decide, fun D h₂ k₂ hDn hD => ?_⟩)))))
  rw [krv_pick] at hD
  have hD : LS h₂ D ov.reverse := hD
  have B₂ := below_kept B₁ k₂
  have hn₂ := hn₁.keeps k₂
  have hFS : ∀ b ∈ L :: fr outer, ∃ o, h₂.get? b = some o := fun b m => by
    obtain ⟨_, o, e, _⟩ := fr_there B₂.frames (a := b) (by rw [fr_cons rfl]; exact m)
    exact ⟨o, e⟩
  have hDf : D ∉ L :: fr outer := fresh_notin B₁.frames hDn
  have hL₂ := hL₁.stays k₂
  have hO₂ : IL (L :: fr outer) h₂ o on := hO₁.at (k₂ o)
  have hH₂ : IL (L :: fr outer) h₂ hl hn := hH₁.at (k₂ hl)
  have hrev : IntsAre ov.reverse on.reverse := oia.reverse
  have k₀₂ : s.heap.StaysIn h₂ := fun b o e => k₂ b o (k b o e)
  refine ⟨ov.reverse.length, _, [D], Src.list hh hD hDf hFS, .head _, _, hn₂, [], by simp, by simp,
    fun bad i m h => Ex2 fun a held => m "held" = some (.ref a) ∧ m "lacks" = some (.ref l) ∧ m "order" = some (.ref o) ∧ IL (L :: fr outer) h a held ∧ a ∉ L :: bad ∧ held.length ≤ 900 ∧ nextL lks on (on.reverse.drop i) held = nextL lks on on.reverse hn, by simp, ?_, ?_, ?_, ?_⟩
  · intro bad h hbad kh
    refine ⟨hl, hn, by walk_at "m", by walk_at "m", by walk_at "m", hH₂.at (kh hl), fun m => ?_, b2, rfl⟩
    rcases List.mem_cons.mp m with q | m
    · exact ex hH.there q
    · rcases hbad _ m with q | q
      · exact absurd q List.not_mem_nil
      · obtain ⟨_, e⟩ := hH₂.there; rw [q] at e; cases e
  · rintro bad i m h h' ⟨a, held, m1, m2, m3, hi, ha, hlen, he⟩ kk
    exact ⟨a, held, m1, m2, m3, hi.at fun o e => kk a o ha e, ha, hlen, he⟩
  · intro bad i el m H₃ tk₃ E' hi hel hInv hn₃ r₃ hex hbad
    refine wpXS ?_
    intro env₀ A₀ E₀ Q₀ s₀
    obtain ⟨a, held, m1, m2, m3, hia, ha, hlen, he⟩ := hInv
    obtain ⟨mark, tm, rfl, hmk⟩ := ints_at hrev hel
    have hdrop : on.reverse.drop i = mark :: on.reverse.drop (i + 1) := (List.drop_eq_getElem_cons (by
      have := List.getElem?_eq_some_iff.mp hmk; exact this.1)).trans (by congr 1; exact (List.getElem?_eq_some_iff.mp hmk).2)
    have hmem : mark ∈ on := List.mem_reverse.mp (List.mem_of_getElem? hmk)
    have B₃ := below_upd (X := []) B₂ r₃ hn₃ hbL (by simp)
    have hL₃ := hL₂.ret' r₃ (fun b m => .inl (by simp at m; simp [m]))
    have hO₃ := hO₂.ret' r₃ (fun b m => .inl (by simp at m; simp [m]))
    obtain ⟨av, als, aia, anf⟩ := id hia
    have f65 : (TopF w.params).lookup 65 = some ⟨_, _, .func (fnX _ _ _ _ _ _ _ _ _ _ _ _ _), _⟩ := rfl
    have f123 : (TopF w.params).lookup 123 = some ⟨_, _, .func (fnX _ _ _ _ _ _ _ _ _ _ _ _ _), _⟩ := rfl
    have hLe : ∃ o, H₃.get? L = some o := by obtain ⟨o, _, _, e, _⟩ := hn₃; exact ⟨o, e⟩
    refine wpXS ?_
    intro env₀ A₀ E₀ Q₀ s₀
    refine wpAny_execs_cons (wpAny_If (wpAny_isTrue_Compare1 (nL hn₃ (by walk_at "m") (nL hn₃ (by walk_at "m") (in_list_ints als.il aia (wpAny_truthy_bool ?_))))))
    by_cases hmh : mark ∈ held
    · have e1 : held.any (· == mark) = true := List.any_eq_true.mpr ⟨mark, hmh, by simp⟩
      rw [e1, if_pos rfl]
      refine wpXS ?_
      intro env₀ A₀ E₀ Q₀ s₀
      refine wpAny_execs_cons (wpAny_Assign_Name (Call_of rfl (nG (v := .ref 65) H B₃.stays (by kernel_rfl) (sp1 (nL hn₃ (by walk_at "m") (sp1 (Disp (sp1 (nL hn₃ (by walk_at "m") (sp0 ⟨by simp [sizeLine_eq], fun D₄ h₄ k₄ hD₄n hD₄ => ?_⟩))))))))))
      have B₄ := below_kept B₃ k₄
      have hn₄ := hn₃.keeps k₄
      refine sp0 ⟨keeps_func (B₄.stays _ _ (H.X _ _ f65)) rfl, ?_⟩
      refine filter_fn H B₄ (by show A.depth + 1 + 2 < _; walk_at "o") hh (als.at (k₄ _)) hD₄ aia (.cons mark tm .nil) (fun c m => ?_) (by walk_at "o") fun f vr h₅ tk₅ hfn hfl hfi r₅ => ?_
      · rw [fr_cons rfl]
        simp only [List.mem_cons, List.not_mem_nil, or_false] at m
        rcases m with rfl | rfl
        · exact anf
        · exact fresh_notin B₃.frames hD₄n
      refine sL (r₅.ns hn₄ (by simp)) fun h₆ hn₆ hs₆ => wpAny_execs_nil (wpAny_execs_nil ⟨_, h₆, _, rfl, hn₆, ⟨f, filt held [mark], by walk_at "m", by walk_at "m", by walk_at "m", ?_, ?_, ?_, ?_⟩, ?_⟩)
      · have hfL : f ≠ L := fun q => by obtain ⟨o, e⟩ := hLe; rw [← q] at e; have := k₄ _ _ e; rw [hfn] at this; cases this
        exact ⟨vr, hfl.at fun o e => hs₆.extBut f o hfL e, hfi, fresh_notin B₄.frames hfn⟩
      · intro m
        have : ∃ o, H₃.get? f = some o := by
          rcases List.mem_cons.mp m with q | m
          · rw [q]; exact hLe
          · exact hex f m
        obtain ⟨o, e⟩ := this; have := k₄ _ _ e; rw [hfn] at this; cases this
      · exact Nat.le_trans (filt_len _ _) hlen
      · rw [← he, hdrop, nextL, if_pos hmh]
      · exact ((Ret.of_stays k₄).trans (r₅.wide (by simp))).trans (.of_but hs₆.extBut (by simp))
    · have e1 : held.any (· == mark) = false := by
        rw [List.any_eq_false]; intro x hx hq; exact hmh (by rw [← beq_iff_eq.mp hq]; exact hx)
      rw [e1, if_neg (by decide)]
      refine wpXS ?_
      intro env₀ A₀ E₀ Q₀ s₀
      refine wpAny_execs_cons (wpAny_Assign_Name (Call_of rfl (nG (v := .ref 123) H B₃.stays (by kernel_rfl) (sp1 (nL hn₃ (by walk_at "m") (sp1 (nL hn₃ (by walk_at "m") (sp1 (wpAny_BinOp (nL hn₃ (by walk_at "m") (Disp (sp1 (nL hn₃ (by walk_at "m") (sp0 ⟨by simp [sizeLine_eq], fun D₄ h₄ k₄ hD₄n hD₄ => ?_⟩))))))))))))))
      refine add_ll (als.at (k₄ _)) hD₄ (by rw [aia.length, sizeLine_eq]; simp; walk_at "o") fun D₅ h₅ k₅ hD₅n hD₅ => ?_
      have k₃₅ : H₃.StaysIn h₅ := fun b o e => k₅ _ _ (k₄ _ _ e)
      have B₅ := below_kept B₃ k₃₅
      have hn₅ := hn₃.keeps k₃₅
      refine sp0 ⟨keeps_func (B₅.stays _ _ (H.X _ _ f123)) rfl, ?_⟩
      refine shared_fn (hn := held ++ [mark]) H B₅ (by show A.depth + 1 + 6 < _; walk_at "o") hh (by show A.units + 3 + 200 < _; walk_at "o") (hL₃.stays k₃₅) (hO₃.at (k₃₅ o)) ⟨_, hD₅, aia.append (.cons mark tm .nil), fresh_notin B₃.frames (stays_none k₄ hD₅n)⟩ (by walk_at "o") (by simp; walk_at "o") (by walk_at "o") fun wd h₆ tk₆ hwd hwi r₆ => ?_
      have hn₆ := r₆.ns hn₅ (by simp)
      have B₆ := below_ret B₅ r₆
      refine sL hn₆ fun h₇ hn₇ hs₇ => ?_
      have B₇ := below_same B₆ hbL hs₇ hn₇
      have hwi₇ := hwi.ret' (h' := h₇) (.of_but (X := [L]) hs₇.extBut (by simp)) (fun b m => .inl (by rw [List.mem_singleton.mp m]; exact .head _))
      obtain ⟨wv, wls, wia, wnf⟩ := id hwi₇
      have r₃₇ : Ret [L] (L :: fr outer) H₃ h₇ := ((Ret.of_stays k₃₅).trans (r₆.wide (by simp))).trans (.of_but hs₇.extBut (by simp))
      have hia₇ := hia.ret' r₃₇ (fun b m => .inl (by rw [List.mem_singleton.mp m]; exact .head _))
      obtain ⟨av₇, als₇, aia₇, anf₇⟩ := hia₇
      refine wpXS ?_
      intro env₀ A₀ E₀ Q₀ s₀
      refine wpAny_execs_cons (wpAny_If (wpAny_isTrue_Compare1 (Sub_item (Call_of rfl (nG (v := .ref 65) H B₇.stays (by kernel_rfl) (sp1 (nL hn₇ (by walk_at "m") (sp1 (nL hn₇ (by walk_at "m") (sp0 ⟨keeps_func (B₇.stays _ _ (H.X _ _ f65)) rfl, ?_⟩))))))))))
      refine filter_fn H B₇ (by show A.depth + 1 + 2 < _; walk_at "o") hh wls als₇ wia aia₇ (fun c m => ?_) (Nat.le_trans (shared_len _ _ _) (by walk_at "o")) fun f vr h₈ tk₈ hfn hfl hfi r₈ => ?_
      · rw [fr_cons rfl]
        simp only [List.mem_cons, List.not_mem_nil, or_false] at m
        rcases m with rfl | rfl
        · exact wnf
        · exact anf₇
      have hin : mark ∈ filt (sharedL lks on (held ++ [mark])) held := mem_filt.mpr ⟨shared_has hmem, hmh⟩
      obtain ⟨fst, hfst⟩ : ∃ fst, (filt (sharedL lks on (held ++ [mark])) held)[0]? = some fst := by
        cases q : filt (sharedL lks on (held ++ [mark])) held with
        | nil => rw [q] at hin; cases hin
        | cons a l => exact ⟨a, rfl⟩
      obtain ⟨tf, hvf⟩ := ints_get hfi hfst
      have hn₈ := r₈.ns hn₇ (by simp)
      have B₈ := below_ret B₇ r₈
      refine wpAny_Constant_int ⟨f, vr, 0, _, .int fst tf, rfl, rfl, hfl, by decide, by decide, hvf, nL hn₈ (by walk_at "m") (eq_int (wpAny_truthy_bool ?_))⟩
      by_cases hq : fst = mark
      · subst hq
        rw [beq_self_eq_true, if_pos rfl]
        refine wpXS ?_
        intro env₀ A₀ E₀ Q₀ s₀
        refine wpAny_execs_cons (wpAny_Return_some (Disp (sp1 (nL hn₈ (by walk_at "m") (sp0 ⟨by simp [sizeLine_eq], fun D₉ h₉ k₉ hD₉n hD₉ => ?_⟩)))))
        have r₂₉ : Ret [L] (L :: fr outer) h₂ h₉ := ((r₃.trans r₃₇).trans (r₈.wide (by simp))).trans (.of_stays k₉)
        have hD₉f : D₉ ∉ L :: fr outer := fresh_notin B₈.frames hD₉n
        show Q (.ref D₉) _
        have n₉ := stays_none k₀₂ (Ret.none ((r₃.trans r₃₇).trans (r₈.wide (by simp))) hD₉n (by simp; rintro rfl; exact hD₉f (.head _)) hD₉f)
        refine h D₉ h₉ _ n₉ ?_ ?_ ?_
        · have : nextL lks on on.reverse hn = some (sharedL lks on (held ++ [fst])) := by
            rw [← he, hdrop, nextL, if_neg hmh, if_pos ⟨hin, hfst⟩]
          rw [this]
          have hw₉ : IL (L :: fr outer) h₉ wd (sharedL lks on (held ++ [fst])) := (hwi₇.ret r₈ (by simp)).at (k₉ wd)
          exact LL.less ⟨_, hD₉, hD₉f, Pr.nil.snoc hw₉⟩
        · intro av hav hoav
          have : nextL lks on on.reverse hn = some (sharedL lks on (held ++ [fst])) := by
            rw [← he, hdrop, nextL, if_neg hmh, if_pos ⟨hin, hfst⟩]
          rw [this]
          have hw₉ : IL (L :: fr outer) h₉ wd (sharedL lks on (held ++ [fst])) := (hwi₇.ret r₈ (by simp)).at (k₉ wd)
          have xav : ∀ {b : Addr}, s.heap.get? b = none → b ∉ av := fun e m => by obtain ⟨_, e'⟩ := hav _ m; rw [e] at e'; cases e'
          have wav : wd ∉ av := by
            rcases hwd with rfl | hwd
            · exact hoav
            · exact xav (stays_none k₀₂ (r₃.none (stays_none k₃₅ hwd) (by simp; rintro rfl; exact wnf (.head _)) wnf))
          have nf : ∀ {b : Addr}, b ∉ av → b ∉ L :: fr outer → b ∉ av ++ fr outer := fun h1 h2 m => by
            rcases List.mem_append.mp m with m | m
            · exact h1 m
            · exact h2 (.tail _ m)
          obtain ⟨w1, w2, w3, w4⟩ := hw₉
          exact ⟨_, hD₉, nf (xav n₉) hD₉f, Pr.nil.snoc ⟨w1, w2, w3, nf wav w4⟩⟩
        · exact Ret.leave (X := []) hLs k₀₂ (r₂₉.wide (by simp))
      · rw [show (fst == mark) = false by simpa using hq, if_neg (by decide)]
        refine wpAny_execs_nil (wpAny_execs_nil (wpAny_execs_nil ⟨_, h₈, _, rfl, hn₈, ⟨a, held, by walk_at "m", by walk_at "m", by walk_at "m", ?_, ha, hlen, ?_⟩, ?_⟩))
        · exact (hia.ret' r₃₇ (fun b m => .inl (by rw [List.mem_singleton.mp m]; exact .head _))).ret r₈ (by simp)
        · rw [← he, hdrop, nextL, if_neg hmh, if_neg]
          rintro ⟨_, q⟩; rw [hfst] at q; exact hq (Option.some.inj q)
        · exact r₃₇.trans (r₈.wide (by simp))
  · rintro bad m h' tk hn' ⟨a, held, m1, m2, m3, hia, ha, hlen, he⟩ r' hbad
    have hnone : nextL lks on on.reverse hn = none := by
      rw [← he, List.drop_eq_nil_of_le (by rw [List.length_reverse, List.length_reverse, oia.length]; exact Nat.le_refl _)]; rfl
    refine wpXS ?_
    intro env₀ A₀ E₀ Q₀ s₀
    refine wpAny_execs_cons (wpAny_Return_some (Disp (sp0 ⟨by simp, fun D₉ h₉ k₉ hD₉n hD₉ => ?_⟩)))
    have hD₉f : D₉ ∉ L :: fr outer := fun q => by
      have : ∃ o, h'.get? D₉ = some o := by
        rcases List.mem_cons.mp q with q | q
        · obtain ⟨o, _, _, e, _⟩ := hn'; exact ⟨o, q ▸ e⟩
        · have B' := below_upd (X := []) B₂ r' hn' hbL (by simp)
          obtain ⟨_, o, e, _⟩ := fr_there B'.frames (a := D₉) (by rw [fr_cons rfl]; exact .tail _ q)
          exact ⟨o, e⟩
      obtain ⟨o, e⟩ := this; rw [hD₉n] at e; cases e
    have n₉ := stays_none k₀₂ (Ret.none r' hD₉n (by simp; rintro rfl; exact hD₉f (.head _)) hD₉f)
    refine h D₉ h₉ _ n₉ ?_ ?_ ?_
    · rw [hnone]
      exact LL.less ⟨_, hD₉, hD₉f, Pr.nil⟩
    · intro av hav hoav
      rw [hnone]
      refine ⟨_, hD₉, fun m => ?_, Pr.nil⟩
      rcases List.mem_append.mp m with m | m
      · obtain ⟨_, e'⟩ := hav _ m; rw [n₉] at e'; cases e'
      · exact hD₉f (.tail _ m)
    · exact Ret.leave (X := []) hLs k₀₂ ((r'.trans (.of_stays k₉)).wide (by simp))
end
end Mine
end

section
open PySem PySem.W PyProof.Rows
set_option maxRecDepth 100000
set_option maxHeartbeats 4000000
namespace Mine
open PySem PySem.Spec PySem.Calls PyProof.Rows PySem.W

theorem ints_of {vs : List Value} {f : Nat → Int} : ∀ {n : Nat}, vs.length = n → (∀ (i : Nat) (v : Value), vs[i]? = some v → ∃ t : Tok, v = .int (f i) t) → IntsAre vs ((List.range n).map f) := by
  induction vs generalizing f with
  | nil => intro n e _; subst e; exact .nil
  | cons v vs ih =>
    intro n e h
    subst e
    obtain ⟨t, rfl⟩ := h 0 v rfl
    rw [List.length_cons, List.range_succ_eq_map, List.map_cons, List.map_map]
    exact .cons _ t (ih rfl fun i v q => h (i + 1) v (by simpa using q))

section
variable {prog : Program} {w : World} {A : Around} {E : Value → Shared → Prop} {s : Shared} {env : Env} {Q : Value → Shared → Prop}

theorem sum_ll {l : Addr} {vs : List Value} {ns : List Int} (hh : A.handled = none) (hl : LS s.heap l vs) (hi : IntsAre vs ns)
    (h : ∀ h' tk t, s.heap.StaysIn h' → Q (.int ns.sum t) { s with heap := h', toks := tk }) : wpAny (model prog w) A (call (.builtin "sum") [.ref l]) Q E s := by
  obtain ⟨xs, e⟩ := hi.allInts.items
  have hl' : s.heap.IsList l (intItems xs) := e ▸ hl.il
  refine sum_intListG hh hl' fun h' tk t' hk => ?_
  have q := h h' tk t' hk
  have e2 : ns = numsOf (intItems xs).toList := by rw [← e, show vs.toArray.toList = vs from rfl, hi.numsOf]
  rw [e2, nums_intItems] at q
  rw [preSum_eq, List.take_of_length_le (by simp)]
  exact q

theorem list_ll {l : Addr} {vs : List Value} (hl : LS s.heap l vs) (hz : vs.length ≤ sizeLine)
    (h : ∀ D h', s.heap.StaysIn h' → s.heap.get? D = none → LS h' D vs → Q (.ref D) { s with heap := h' }) : wpAny (model prog w) A (call (.type "list") [.ref l]) Q E s := by
  obtain ⟨n, e⟩ := hl
  refine call_list_seq l (.inl rfl) e rfl rfl (fun h' c' k e' => h _ h' k (Heap.get?_none_of_le (Nat.le_refl _)) ⟨_, e'⟩) (by simpa using hz)

theorem list_range {r : Addr} {a b : Int} {t u v : Tok} {n : Nat} (hh : A.handled = none) (hr : IsRange s.heap r a b 1 t u v) (hsmall : Builtin.Range.small a b 1 = true) (hn : Builtin.Range.rangeSize a b 1 = n) (hlen : n ≤ 2 ^ 24)
    (h : ∀ D vs h' tk, s.heap.StaysIn h' → s.heap.get? D = none → LS h' D vs → IntsAre vs ((List.range n).map fun (i : Nat) => a + (i : Int)) → Q (.ref D) { s with heap := h', toks := tk }) : wpAny (model prog w) A (call (.type "list") [.ref r]) Q E s := by
  refine call_list_range hh hr hsmall hn hlen fun h' tk acc c' k e hacc => h _ acc.toList h' tk k (Heap.get?_none_of_le (Nat.le_refl _)) ⟨_, e⟩ (ints_of (f := fun (i : Nat) => a + (i : Int)) hacc.1 fun i v q => by simpa using hacc.2 i v (by simpa using q))

theorem Src.range {FS : List Addr} {h : Heap} {r : Addr} {a b c : Int} {t u v : Tok} {n : Nat} (hh : A.handled = none) (hr : IsRange h r a b c t u v) (hsmall : Builtin.Range.small a b c = true) (hn : Builtin.Range.rangeSize a b c = n) (hFS : ∀ b ∈ FS, ∃ o, h.get? b = some o) :
    Src prog w A FS [] [] h (.ref r) n (fun i v => ∃ t, v = .int (a + i * c) t) where
  opens := fun s Q E e k => by
    subst e
    refine wpAny_pyIter_range hr hsmall (k _ _ _ _ _ _ (Walks.range hh s.heap.objs.size a c n) (fun i v _ e => e) (by show IsRangeIter _ _ _ _ _; rw [hn]; simpa using Heap.get?_push_size _ rfl) ?_ ?_ ?_ ?_ ?_ (fun b o e => Heap.get?_push_of_some _ e))
    · intro b m
      rw [Heap.size_push, List.mem_singleton.mp m]; exact Nat.lt_succ_self _
    · intro b m q
      rw [List.mem_singleton.mp m] at q
      obtain ⟨_, e⟩ := hFS _ q
      exact Nat.lt_irrefl _ (Heap.lt_size e)
    · intro b m
      rw [List.mem_singleton.mp m]; exact .inr (Heap.get?_none_of_le (Nat.le_refl _))
    · intro b m
      rw [List.mem_singleton.mp m]; exact .inr (Heap.get?_none_of_le (Nat.le_refl _))
    · intro i h' st b m
      rw [List.mem_singleton.mp m]; exact ⟨_, st⟩

theorem Src.bytes {FS : List Addr} {h : Heap} {b : Array UInt8} {t : Tok} (hh : A.handled = none) (hFS : ∀ b ∈ FS, ∃ o, h.get? b = some o) :
    Src prog w A FS [] [] h (.bytes b t) b.size (fun i v => Ex2 fun c u => b[i]? = some c ∧ v = .int (c.toNat : Int) u) where
  opens := fun s Q E e k => by
    subst e
    refine KBw.pyIter_bytes (k _ _ _ _ _ _ (KBw.walks hh s.heap.objs.size b t) (fun i v _ e => by obtain ⟨c, u, e⟩ := e; exact ⟨c, u, e⟩) ⟨_, Heap.get?_push_size _ rfl, rfl, rfl⟩ ?_ ?_ ?_ ?_ ?_ (fun b o e => Heap.get?_push_of_some _ e))
    · intro b m
      rw [Heap.size_push, List.mem_singleton.mp m]; exact Nat.lt_succ_self _
    · intro b m q
      rw [List.mem_singleton.mp m] at q
      obtain ⟨_, e⟩ := hFS _ q
      exact Nat.lt_irrefl _ (Heap.lt_size e)
    · intro b m
      rw [List.mem_singleton.mp m]; exact .inr (Heap.get?_none_of_le (Nat.le_refl _))
    · intro b m
      rw [List.mem_singleton.mp m]; exact .inr (Heap.get?_none_of_le (Nat.le_refl _))
    · intro i h' st b m
      rw [List.mem_singleton.mp m]; obtain ⟨o, e, _⟩ := st; exact ⟨_, e⟩

theorem ints_of_get {vs : List Value} : ∀ {ns : List Int}, vs.length = ns.length → (∀ (i : Nat) (v : Value), vs[i]? = some v → Ex2 fun (n : Int) (t : Tok) => ns[i]? = some n ∧ v = .int n t) → IntsAre vs ns := by
  induction vs with
  | nil => intro ns e _; cases ns with | nil => exact .nil | cons _ _ => simp at e
  | cons v vs ih =>
    intro ns e h
    cases ns with
    | nil => simp at e
    | cons n ns =>
      obtain ⟨m, t, e1, rfl⟩ := h 0 v rfl
      simp at e1; subst e1
      exact .cons _ t (ih (by simpa using e) fun i v q => by simpa using h (i + 1) v (by simpa using q))

theorem bytes_no_hint {b : Array UInt8} {t : Tok} {Q : Bool → Shared → Prop} (h : Q false s) : wpAny (model prog w) A (Builtin.List.listLengthHint (.bytes b t)) Q E s := by
  unfold Builtin.List.listLengthHint
  refine wpAny_bind (wpAny_specialOf (typeIs_bytes s b t) FB.slot_bytes_len.lookup ?_)
  generalize hid : ("bytes.__len__" : String) = id0
  wp_delta
  rw [show splitId id0 = some ("bytes", "__len__") from by subst hid; decide +kernel]
  subst hid
  refine wpAny_bind (wpAny_isInstance (T := "bytes") (b := true) (typeIs_bytes s b t) (by rw [isSubtype_type]; kernel_rfl) ?_)
  refine wpAny_ite_split (fun hab => absurd hab (by decide)) (fun _ => ?_)
  refine wpAny_ite_split (fun _ => ?_) (fun hab => absurd (by decide +kernel) hab)
  refine wpAny_bind (wpAny_typeOf (typeIs_bytes s b t) ?_)
  exact wpAny_pure h

theorem list_bytes {b : Array UInt8} {t : Tok} (hh : A.handled = none) (hz : b.size ≤ 1000)
    (h : ∀ D vs h' tk, s.heap.StaysIn h' → s.heap.get? D = none → LS h' D vs → IntsAre vs (KBw.bInts b) → Q (.ref D) { s with heap := h', toks := tk }) : wpAny (model prog w) A (call (.type "list") [.bytes b t]) Q E s := by
  refine callType_codes (Q₁ := fun obj s₁ => obj = .ref s.heap.objs.size ∧ s₁ = { s with heap := s.heap.push { cls := .type "list", data := .seq #[] } }) F.called_list (F.typeCall_list_1 _) F.entry_list_init
    (code_list_new _ ⟨rfl, rfl⟩) fun obj s₁ h₁ => ?_
  obtain ⟨rfl, rfl⟩ := h₁
  have hSn : s.heap.get? s.heap.objs.size = none := Heap.get?_none_of_le (Nat.le_refl _)
  have hS : (s.heap.push { cls := .type "list", data := .seq #[] }).get? s.heap.objs.size = some { cls := .type "list", data := .seq #[] } := Heap.get?_push_size _ rfl
  have k₁ : s.heap.StaysIn (s.heap.push { cls := .type "list", data := .seq #[] }) := fun b o e => Heap.get?_push_of_some _ e
  generalize s.heap.objs.size = S at *
  generalize (s.heap.push { cls := .type "list", data := .seq #[] }) = H₁ at *
  refine ⟨⟨_, hS, rfl⟩, F.args_list_init_2 _ _, ?_⟩
  have lt : ∀ a o, s.heap.get? a = some o → a ≠ S := fun a o e q => by rw [q, hSn] at e; cases e
  show wpAny _ A.in1.in1 (do let old ← Builtin.List.listItems (.ref S); Builtin.List.listUpdate (.ref S) (fun _ => #[]); letGo old.toList.reverse; Builtin.List.listExtendWith (.ref S) (.bytes b t) .none) _ _ _
  refine wpAny_bind ?_
  unfold Builtin.List.listItems
  refine wpAny_bind (wpAny_seqItems hS rfl (wpAny_pure ?_))
  show wpAny _ A.in1.in1 (updateSeq S (fun _ => #[]) >>= fun _ => letGo (#[] : Array Value).toList.reverse >>= fun _ => Builtin.List.listExtendWith (.ref S) (.bytes b t) .none) _ _ _
  refine wpAny_bind (wpAny_updateSeq hS rfl ?_)
  have hS₂ := Heap.get?_update_self (Obj.mapSeq (fun _ => (#[] : Array Value))) hS rfl
  obtain ⟨c₂, hS₂⟩ : ∃ c₂, (H₁.update S (Obj.mapSeq (fun _ => (#[] : Array Value)))).get? S = some { cls := .type "list", data := .seq (#[] : Array Value) c₂ } := by
    rw [hS₂]; simp [Obj.mapSeq]
  have k₂ : s.heap.StaysIn (H₁.update S (Obj.mapSeq (fun _ => (#[] : Array Value)))) := fun b o e => (Heap.SameBut.update ..).extBut b o (lt b o e) (k₁ b o e)
  generalize H₁.update S (Obj.mapSeq (fun _ => (#[] : Array Value))) = H₂ at *
  refine wpAny_bind (wpAny_letGo ?_)
  unfold Builtin.List.listExtendWith
  refine wpAny_bind (wpAny_typeOf (typeIs_bytes _ b t) ?_)
  have h1 : Builtin.List.listSameRef (.ref S) (.bytes b t) = false := rfl
  have h2 : (Value.type "bytes" == Value.type "list") = false := by decide
  have h3 : (Value.type "bytes" == Value.type "tuple") = false := by decide
  simp only [h1, h2, h3, Bool.or_false, Bool.false_eq_true, if_false]
  refine wpAny_bind (KBw.pyIter_bytes ?_)
  refine wpAny_bind (wpAny_holding (bytes_no_hint ?_))
  rw [if_neg (by decide +kernel)]
  have hI : KBw.IsBytesIter (H₂.push { cls := .type "bytes_iterator", data := .fields #[.bytes b t, .int 0 0] }) H₂.objs.size b t 0 := ⟨_, Heap.get?_push_size _ rfl, rfl, rfl⟩
  have hS₃ := Heap.get?_push_of_some { cls := .type "bytes_iterator", data := .fields #[.bytes b t, .int 0 0] } hS₂
  have hSI : S ≠ H₂.objs.size := fun q => Nat.lt_irrefl _ (q ▸ Heap.lt_size hS₂)
  have k₃ : H₂.StaysIn (H₂.push { cls := .type "bytes_iterator", data := .fields #[.bytes b t, .int 0 0] }) := fun b o e => Heap.get?_push_of_some _ e
  have hIn : s.heap.get? H₂.objs.size = none := stays_none k₂ (Heap.get?_none_of_le (Nat.le_refl _))
  generalize (H₂.push { cls := .type "bytes_iterator", data := .fields #[.bytes b t, .int 0 0] }) = H₃ at *
  generalize H₂.objs.size = I at *
  have W := (KBw.walks (prog := prog) (w := w) (A := A.in1.in1) hh I b t).toS
  refine wpAny_pure ⟨plainId_quiet F.plain_extend_loop _, codeAny_extend_loopS (A := A.in1) W (by rw [sizeLine_eq]; walk_at "o") S (by simpa using hSI) .none b.size 0 _ #[] c₂ rfl (Nat.zero_le _) hI hS₃ (ItemsOf.nil _) fun s' acc' c' hm hS' hacc => ?_⟩
  rw [Moved.eq_with hm]
  refine ⟨rfl, h S acc'.toList s'.heap s'.toks (fun a o e => hm.heap a o (fun m => ?_) (k₃ _ _ (k₂ _ _ e))) hSn ⟨c', hS'⟩ ?_⟩
  · rcases List.mem_cons.mp m with q | m
    · exact lt a o e q
    · rw [List.mem_singleton.mp m] at e; rw [hIn] at e; cases e
  · refine ints_of_get (by rw [KBw.ints_length, Array.length_toList]; exact hacc.1) fun i v q => ?_
    obtain ⟨c, u, e1, e2⟩ := hacc.2 i v (by simpa using q)
    exact ⟨_, u, KBw.ints_get e1, e2⟩

theorem range_1 {n : Int} {t : Tok} (h : ∀ r h' tk t u v, s.heap.StaysIn h' → s.heap.get? r = none → IsRange h' r 0 n 1 t u v → Q (.ref r) { s with heap := h', toks := tk }) : wpAny (model prog w) A (call (.type "range") [.int n t]) Q E s :=
  call_range_1 (h _ _ _ _ _ _ (fun b o e => Heap.get?_push_of_some _ e) (Heap.get?_none_of_le (Nat.le_refl _)) (IsRange.new ..))
theorem range_2 {a b : Int} {t u : Tok} (h : ∀ r h' tk t u v, s.heap.StaysIn h' → s.heap.get? r = none → IsRange h' r a b 1 t u v → Q (.ref r) { s with heap := h', toks := tk }) : wpAny (model prog w) A (call (.type "range") [.int a t, .int b u]) Q E s :=
  call_range_2 (h _ _ _ _ _ _ (fun b o e => Heap.get?_push_of_some _ e) (Heap.get?_none_of_le (Nat.le_refl _)) (IsRange.new ..))
theorem rsize {n : Nat} : Builtin.Range.rangeSize 0 n 1 = n := by rw [rangeSize_one]; split <;> omega
theorem rsmall {n : Nat} (h : n ≤ 1000000) : Builtin.Range.small 0 n 1 = true := small_one (by decide) (by decide) (by walk_at "o") (by walk_at "o")
end
end Mine
end

section
open PySem PySem.W PyProof.Rows
set_option maxRecDepth 100000
set_option maxHeartbeats 4000000
namespace Mine
open PySem PySem.Spec PySem.Calls PyProof.Rows PySem.W

noncomputable def rowStep (st : List Int × Int) (i : Nat) : List Int × Int :=
  (st.1.take (st.2.fmod ((i : Int) + 1)).toNat ++ [(i : Int)] ++ st.1.drop (st.2.fmod ((i : Int) + 1)).toNat, st.2.fdiv ((i : Int) + 1))
noncomputable def rowSt (n : Int) : Nat → List Int × Int
  | 0 => ([], n)
  | i + 1 => rowStep (rowSt n i) i
noncomputable def rowL (n : Int) : List Int := (rowSt n 6).1
theorem rowSt_len (n : Int) : ∀ i, (rowSt n i).1.length = i
  | 0 => rfl
  | i + 1 => by
    have ih := rowSt_len n i
    show (rowStep (rowSt n i) i).1.length = i + 1
    unfold rowStep
    simp only [List.length_append, List.length_take, List.length_drop, List.length_singleton, ih]
    omega

theorem pick_upto {vs : List Value} {x : Int} (h : 0 ≤ x) : (slicePick vs.toArray none (some x) none).toList = vs.take x.toNat := by
  have := slicePick_upto' vs.toArray x.toNat
  rw [Int.toNat_of_nonneg h] at this; rw [this]
theorem pick_from {vs : List Value} {x : Int} (h : 0 ≤ x) : (slicePick vs.toArray (some x) none none).toList = vs.drop x.toNat := by
  have := slicePick_from' vs.toArray x.toNat
  rw [Int.toNat_of_nonneg h] at this; rw [this]

section
variable {w : World} {mg mb : Str → Option Value} {hb : Heap} {prog : Program} {A : Around} {outer : List Env} {s : Shared} {E : Value → Shared → Prop}

theorem row_fn {n : Int} {t : Tok} {Q : Value → Shared → Prop}
    (H : Bs w mg mb hb) (B : Below A hb outer s.heap) (hd : A.depth + 2 < recursionLimit) (hh : A.handled = none)
    (h : ∀ r h' tk, s.heap.get? r = none → IL (fr outer) h' r (rowL n) → Ret [] (fr outer) s.heap h' → Q (.ref r) { s with heap := h', toks := tk }) :
    wpAny (model prog w) A (call (.ref 118) [.int n t]) Q E s := by
  have ho : (TopF w.params).lookup 118 = some ⟨_, _, .func (fnX _ _ _ _ _ _ _ _ _ _ _ _ _), _⟩ := rfl
  refine enter (binds := [("number", .int n t)]) H B (by walk_at "o") ho (by kernel_rfl) (BindsTo.of_eq rfl) (locs rfl) (by decide) fun L h₁ hLs hn₁ k B₁ => ?_
  clear ho
  have hLn : s.heap.get? L = none := Heap.get?_none_of_le (by rw [hLs]; exact Nat.le_refl _)
  have hbL : hb.get? L = none := (fr_there B₁.frames (.head _)).1
  refine wpXS ?_
  intro env₀ A₀ E₀ Q₀ s₀
  refine wpAny_execs_cons (wpAny_Assign_Name (Disp (sp0 ⟨by simp, fun R₀ h₂ k₂ hRn hR => sL (hn₁.keeps k₂) fun h₃ hn₃ hs₃ => ?_⟩)))
  have hRL : R₀ ≠ L := by rintro rfl; obtain ⟨o, _, _, e, _⟩ := hn₁; rw [hRn] at e; cases e
  have B₃ := below_same (below_kept B₁ k₂) hbL hs₃ hn₃
  have k₃ : s.heap.StaysIn h₃ := fun b o e => hs₃.extBut b o (fun q => by rw [q, hLn] at e; cases e) (k₂ _ _ (k _ _ e))
  refine wpXS ?_
  intro env₀ A₀ E₀ Q₀ s₀
  refine wpAny_execs_cons (For_of (L := L) (FS := L :: fr outer) (W0 := []) rfl rfl (by rfl) (Call_of rfl (nB (v := .type "range") H B₃.stays (by kernel_rfl) (by kernel_rfl) (sp1 (wpAny_Constant_int (sp0 ⟨keeps_type, range_1 fun r h₄ tk₄ t₁ t₂ t₃ k₄ hrn hr => ?_⟩))))))
  have hn₄ := hn₃.keeps k₄
  have B₄ := below_kept B₃ k₄
  have k₀₄ : s.heap.StaysIn h₄ := fun b o e => k₄ _ _ (k₃ _ _ e)
  have hFS : ∀ b ∈ L :: fr outer, ∃ o, h₄.get? b = some o := fun b m => by
    obtain ⟨_, o, e, _⟩ := fr_there B₄.frames (a := b) (by rw [fr_cons rfl]; exact m)
    exact ⟨o, e⟩
  have hR₃ : LS h₃ R₀ [] := hR.at fun o e => hs₃.extBut R₀ o hRL e
  have hRf : R₀ ∉ L :: fr outer := fun q => by
    rcases List.mem_cons.mp q with q | q
    · exact hRL q
    · exact fresh_notin B.frames (stays_none k hRn) q
  refine ⟨6, _, [], Src.range (n := 6) hh hr (rsmall (n := 6) (by decide)) rsize hFS, .head _, _, hn₄, [], by simp, by simp,
    fun bad i m h => Ex2 fun a t => m "row" = some (.ref a) ∧ m "number" = some (.int (rowSt n i).2 t) ∧ IL (L :: fr outer) h a (rowSt n i).1 ∧ a ∉ L :: bad ∧ s.heap.get? a = none, by simp, ?_, ?_, ?_, ?_⟩
  · intro bad h hbad kh
    refine ⟨R₀, t, by walk_at "m", by walk_at "m", ⟨[], (hR₃.at (k₄ _)).at (kh R₀), .nil, hRf⟩, fun m => ?_, stays_none k hRn⟩
    rcases List.mem_cons.mp m with q | m
    · exact hRL q
    · rcases hbad _ m with q | q
      · exact absurd q List.not_mem_nil
      · obtain ⟨_, e⟩ := (hR₃.at (k₄ _)).there; rw [q] at e; cases e
  · rintro bad i m h h' ⟨a, t, m1, m2, hi, ha, hz⟩ kk
    exact ⟨a, t, m1, m2, hi.at fun o e => kk a o ha e, ha, hz⟩
  · rintro bad i el m H₅ tk₅ E' hi ⟨t', rfl⟩ ⟨a, t, m1, m2, hia, ha, hz⟩ hn₅ r₅ hex hbad
    have B₅ := below_upd (X := []) B₄ r₅ hn₅ hbL (by simp)
    obtain ⟨av, als, aia, anf⟩ := id hia
    have hLe : ∃ o, H₅.get? L = some o := by obtain ⟨o, _, _, e, _⟩ := hn₅; exact ⟨o, e⟩
    have hpos : ((i : Int) + 1) ≠ 0 := by walk_at "o"
    have hv : (0 : Int) + (i : Int) * 1 = (i : Int) := by walk_at "o"
    rw [hv] at hn₅
    refine wpXS ?_
    intro env₀ A₀ E₀ Q₀ s₀
    refine wpAny_execs_cons (wpAny_Assign_Name (wpAny_BinOp (nL hn₅ (by walk_at "m") (wpAny_BinOp (nL hn₅ (by walk_at "m") (wpAny_Constant_int (add_int (mod_int hpos (sL hn₅ fun h₆ hn₆ hs₆ => ?_)))))))))
    have hp0 : 0 ≤ (rowSt n i).2.fmod ((i : Int) + 1) := Int.fmod_nonneg_of_pos _ (by walk_at "o")
    have als₆ : LS h₆ a av := als.at fun o e => hs₆.extBut a o (fun q => ha (by simp [q])) e
    have lena : av.length = i := by rw [aia.length, rowSt_len]
    have i6 : i < 6 := hi
    refine wpXS ?_
    intro env₀ A₀ E₀ Q₀ s₀
    refine wpAny_execs_cons (wpAny_Assign_Name (wpAny_BinOp (wpAny_BinOp (Sub_slice (nL hn₆ (by walk_at "m") (wpAny_pure (nL hn₆ (by walk_at "m") (wpAny_pure ⟨a, av, _, _, _, rfl, als₆, by rw [lena, sizeLine_eq]; omega, .none, .int _ _, .none, by decide, fun D₁ h₇ k₇ hD₁n hD₁ => ?_⟩))))))))
    rw [pick_upto hp0] at hD₁
    have hn₇ := hn₆.keeps k₇
    refine Disp (sp1 (nL hn₇ (by walk_at "m") (sp0 ⟨by simp [sizeLine_eq], fun D₂ h₈ k₈ hD₂n hD₂ => ?_⟩)))
    refine add_ll (hD₁.at (k₈ _)) hD₂ (by rw [List.length_take, lena, sizeLine_eq]; simp; walk_at "o") fun D₃ h₉ k₉ hD₃n hD₃ => ?_
    have hn₉ := (hn₇.keeps k₈).keeps k₉
    have k₆₉ : h₆.StaysIn h₉ := fun b o e => k₉ _ _ (k₈ _ _ (k₇ _ _ e))
    refine Sub_slice (nL hn₉ (by walk_at "m") (nL hn₉ (by walk_at "m") (wpAny_pure (wpAny_pure ⟨a, av, _, _, _, rfl, als₆.at (k₆₉ _), by rw [lena, sizeLine_eq]; omega, .int _ _, .none, .none, by decide, fun D₄ g₁ l₁ hD₄n hD₄ => ?_⟩))))
    rw [pick_from hp0] at hD₄
    refine add_ll (hD₃.at (l₁ _)) hD₄ (by simp only [List.length_append, List.length_take, List.length_drop, lena, sizeLine_eq, List.length_singleton]; walk_at "o") fun D₅ g₂ l₂ hD₅n hD₅ => ?_
    have hn₂' := (hn₉.keeps l₁).keeps l₂
    refine sL hn₂' fun g₃ hn₃' hs₃' => ?_
    have k₆g : h₆.StaysIn g₂ := fun b o e => l₂ _ _ (l₁ _ _ (k₆₉ _ _ e))
    have hD₅L : D₅ ≠ L := by
      rintro rfl
      obtain ⟨o, e⟩ := hLe
      obtain ⟨o', es, ep, e', _⟩ := hn₉.keeps l₁
      rw [hD₅n] at e'; cases e'
    have rg₁ : Ret ([L] ++ []) (L :: fr outer) H₅ g₁ := ((Ret.of_but (X := [L]) hs₆.extBut (by simp)).trans (.of_stays k₆₉)).trans (.of_stays l₁)
    have Bg₁ := below_upd (X := []) B₅ rg₁ (hn₉.keeps l₁) hbL (by simp)
    have hD₅f : D₅ ∉ L :: fr outer := fresh_notin Bg₁.frames hD₅n
    refine wpXS ?_
    intro env₀ A₀ E₀ Q₀ s₀
    refine wpAny_execs_cons (wpAny_Assign_Name (wpAny_BinOp (nL hn₃' (by walk_at "m") (wpAny_BinOp (nL hn₃' (by walk_at "m") (wpAny_Constant_int (add_int (floordiv_int hpos (sL hn₃' fun g₄ hn₄' hs₄' => ?_)))))))))
    refine wpAny_execs_nil ⟨_, g₄, _, rfl, hn₄', ⟨D₅, _, by walk_at "m", by walk_at "m", ⟨_, (hD₅.at fun o e => hs₃'.extBut D₅ o hD₅L e).at fun o e => hs₄'.extBut D₅ o hD₅L e, ?_, ?_⟩, ?_, ?_⟩, ?_⟩
    · exact ((aia.take _).append (.cons _ _ .nil)).append (aia.drop _)
    · exact hD₅f
    · intro m
      have : ∃ o, H₅.get? D₅ = some o := by
        rcases List.mem_cons.mp m with q | m
        · rw [q]; exact hLe
        · exact hex D₅ m
      obtain ⟨o, e⟩ := this
      rw [l₁ _ _ (k₆₉ _ _ (hs₆.extBut D₅ o hD₅L e))] at hD₅n; cases hD₅n
    · exact stays_none k₀₄ (Ret.none (r₅.trans rg₁) hD₅n (by simpa using hD₅L) hD₅f)
    · exact (((Ret.of_but (X := [L]) hs₆.extBut (by simp)).trans (.of_stays k₆g)).trans (.of_but hs₃'.extBut (by simp))).trans (.of_but hs₄'.extBut (by simp))
  · rintro bad m h' tk hn' ⟨a, t, m1, m2, hia, ha, hz⟩ r' hbad
    refine wpXS ?_
    intro env₀ A₀ E₀ Q₀ s₀
    refine wpAny_execs_cons (wpAny_Return_some (nL hn' m1 ?_))
    exact h a h' _ hz hia.less (Ret.leave (X := []) hLs k₀₄ (r'.wide (by simp)))
end
end Mine
end

section
open PySem PySem.W PyProof.Rows
set_option maxRecDepth 100000
set_option maxHeartbeats 4000000
namespace Mine
open PySem PySem.Spec PySem.Calls PyProof.Rows PySem.W

section
variable {prog : Program} {w : World} {A : Around} {E : Value → Shared → Prop} {s : Shared} {env : Env}

theorem App_stmt {o e : Expr} {apos pos pos' : Pos} {Q : Flow → Shared → Prop} {pl : Sem Bool}
    (h : wpAny (model prog w) A (eval o env) (fun ov s₁ => Ex2 fun l vs => ov = .ref l ∧ LS s₁.heap l vs ∧ wpAny (model prog w) A (eval e env) (fun x s₂ => ∃ vs, LS s₂.heap l vs ∧ vs.length ≤ sizeLine ∧
      ∀ h', LS h' l (vs ++ [x]) → Heap.SameBut l s₂.heap h' → Q .next { s₂ with heap := h' }) E s₁) E s)
    (hi : interactive env = false := by rfl) (he : starEach [e] env = (false, eval e env) :: starEach [] env := by rfl)
    (he2 : eval (.Call (.Attribute o "append" apos) [e] [] pos) env = (do
      let ov ← eval o env
      standAt apos.atName
      let (f, first) ← holding [ov] (getMethod ov "append" pl)
      callWith pos f first (backTo pos (starEach [e] env)) (backToKw pos (keywordEach [] env))) := by rfl) :
    wpAny (model prog w) A (exec (.Expr (.Call (.Attribute o "append" apos) [e] [] pos) pos') env) Q E s := by
  refine wpAny_Expr (methodCall_KW (wpAny_mono h (fun ov s₁ h₁ => ?_) fun _ _ x => x) he2) hi rfl
  obtain ⟨l, vs, rfl, ⟨n, hl⟩, h₂⟩ := h₁
  refine getMethod_list_append hl rfl rfl ?_
  refine callWith_of (by rw [he]; rfl) (sp1 (wpAny_mono h₂ (fun x s₂ h₃ => sp0 ⟨keeps_builtin, ?_⟩) fun _ _ x => x) he)
  obtain ⟨vs', hl', hz, hQ⟩ := h₃
  exact wpAny_list_append_plain (hsz := by simpa using hz) hl'.plain fun h' p k => hQ h' (by simpa using LS.of_plain p) k
end
end Mine
end

section
open PySem PySem.W PyProof.Rows
set_option maxRecDepth 100000
set_option maxHeartbeats 4000000
namespace Mine
open PySem PySem.Spec PySem.Calls PyProof.Rows PySem.W

noncomputable def meetAdd (acc : List Int) (x : Int) : List Int := if x ∈ acc then acc else acc ++ [x]
noncomputable def meetInner (v : Int) (ms acc : List Int) : List Int := ms.foldl (fun acc m => meetAdd acc (Builtin.bitAnd m (63 - v))) acc
noncomputable def meetsL (vals : List Int) : List Int := vals.foldl (fun ms v => meetInner v ms ms) [63]
theorem meetAdd_len (acc : List Int) (x : Int) : (meetAdd acc x).length ≤ acc.length + 1 := by unfold meetAdd; split <;> simp
theorem meetInner_len (v : Int) : ∀ (ms acc : List Int), (meetInner v ms acc).length ≤ acc.length + ms.length
  | [], acc => by simp [meetInner]
  | m :: ms, acc => by
    have := meetInner_len v ms (meetAdd acc (Builtin.bitAnd m (63 - v)))
    have h2 := meetAdd_len acc (Builtin.bitAnd m (63 - v))
    unfold meetInner at this ⊢
    rw [List.foldl_cons, List.length_cons]
    omega
theorem meetsL_len : ∀ (vals acc : List Int), (vals.foldl (fun ms v => meetInner v ms ms) acc).length ≤ acc.length * 2 ^ vals.length
  | [], acc => by simp
  | v :: vals, acc => by
    rw [List.foldl_cons]
    refine Nat.le_trans (meetsL_len vals _) ?_
    rw [List.length_cons, Nat.pow_succ, Nat.mul_comm (2 ^ vals.length) 2, ← Nat.mul_assoc]
    exact Nat.mul_le_mul_right _ (by have := meetInner_len v acc acc; walk_at "o")

section
variable {w : World} {mg mb : Str → Option Value} {hb : Heap} {prog : Program} {A : Around} {outer : List Env} {s : Shared} {E : Value → Shared → Prop}

theorem meets_fn {l : Addr} {vals : List Int} {Q : Value → Shared → Prop}
    (H : Bs w mg mb hb) (B : Below A hb outer s.heap) (hd : A.depth + 2 < recursionLimit) (hh : A.handled = none) (hl : IL (fr outer) s.heap l vals) (hz : vals.length ≤ 8)
    (h : ∀ r h' tk, s.heap.get? r = none → IL (fr outer) h' r (meetsL vals) → Ret [] (fr outer) s.heap h' → Q (.ref r) { s with heap := h', toks := tk }) :
    wpAny (model prog w) A (call (.ref 137) [.ref l]) Q E s := by
  have ho : (TopF w.params).lookup 137 = some ⟨_, _, .func (fnX _ _ _ _ _ _ _ _ _ _ _ _ _), _⟩ := rfl
  refine enter (binds := [("values", .ref l)]) H B (by walk_at "o") ho (by kernel_rfl) (BindsTo.of_eq rfl) (locs rfl) (by decide) fun L h₁ hLs hn₁ k B₁ => ?_
  clear ho
  have hLn : s.heap.get? L = none := Heap.get?_none_of_le (by rw [hLs]; exact Nat.le_refl _)
  have hbL : hb.get? L = none := (fr_there B₁.frames (.head _)).1
  have ex : ∀ {a : Addr}, (∃ o, s.heap.get? a = some o) → a ≠ L := fun ⟨_, e⟩ q => by rw [q, hLn] at e; cases e
  have hl₁ : IL (L :: fr outer) h₁ l vals := (hl.more (ex hl.there)).at (k l)
  refine wpXS ?_
  intro env₀ A₀ E₀ Q₀ s₀
  refine wpAny_execs_cons (wpAny_Assign_Name (Disp (sp1 (wpAny_Constant_int (sp0 ⟨by simp [sizeLine_eq], fun R h₂ k₂ hRn hR => sL (hn₁.keeps k₂) fun h₃ hn₃ hs₃ => ?_⟩)))))
  have hRL : R ≠ L := by rintro rfl; obtain ⟨o, _, _, e, _⟩ := hn₁; rw [hRn] at e; cases e
  have B₃ := below_same (below_kept B₁ k₂) hbL hs₃ hn₃
  have k₃ : s.heap.StaysIn h₃ := fun b o e => hs₃.extBut b o (fun q => by rw [q, hLn] at e; cases e) (k₂ _ _ (k _ _ e))
  have hRf : R ∉ L :: fr outer := fun q => by
    rcases List.mem_cons.mp q with q | q
    · exact hRL q
    · exact fresh_notin B.frames (stays_none k hRn) q
  have hR₃ : IL (L :: fr outer) h₃ R [63] := ⟨_, hR.at fun o e => hs₃.extBut R o hRL e, .cons 63 _ .nil, hRf⟩
  have hbR : hb.get? R = none := stays_none B.stays (stays_none k hRn)
  have hlL : l ≠ L := ex hl.there
  have hl₃ : IL (L :: fr outer) h₃ l vals := (hl₁.at (k₂ l)).at fun o e => hs₃.extBut l o hlL e
  have hRl : R ≠ l := by rintro rfl; obtain ⟨_, e⟩ := hl₁.there; rw [hRn] at e; cases e
  obtain ⟨lv, lls, lia, lnf⟩ := id hl₃
  have hFS : ∀ b ∈ L :: fr outer, ∃ o, h₃.get? b = some o := fun b m => by
    obtain ⟨_, o, e, _⟩ := fr_there B₃.frames (a := b) (by rw [fr_cons rfl]; exact m)
    exact ⟨o, e⟩
  refine wpXS ?_
  intro env₀ A₀ E₀ Q₀ s₀
  refine wpAny_execs_cons (For_of (L := L) (FS := L :: fr outer) (W0 := []) rfl rfl (by rfl) (nL hn₃ (by walk_at "m") ⟨lv.length, _, _, Src.list hh lls lnf hFS, .head _, _, hn₃, [R], ?_, by simp,
    fun bad i m h => m "meets" = some (.ref R) ∧ IL (L :: fr outer) h R ((vals.take i).foldl (fun ms v => meetInner v ms ms) [63]) ∧ R ∉ L :: bad, ?_, ?_, ?_, ?_, ?_⟩))
  · intro a m; rw [List.mem_singleton.mp m]; exact hR₃.there
  · intro a m; rw [List.mem_singleton.mp m]; simpa using hRl
  · intro bad h hbad kh
    refine ⟨by walk_at "m", hR₃.at (kh R), fun m => ?_⟩
    rcases List.mem_cons.mp m with q | m
    · exact hRL q
    · rcases hbad _ m with q | q
      · exact absurd q List.not_mem_nil
      · obtain ⟨_, e⟩ := hR₃.there; rw [q] at e; cases e
  · rintro bad i m h h' ⟨m1, hi, ha⟩ kk
    exact ⟨m1, hi.at fun o e => kk R o ha e, ha⟩
  · rintro bad i el m H₅ tk₅ E' hi hel ⟨m1, hia, ha⟩ hn₅ r₅ hex hbad
    obtain ⟨v, tv, rfl, hv⟩ := ints_at lia hel
    have B₅ := below_upd (X := [R]) B₃ r₅ hn₅ hbL (fun a m => by rw [List.mem_singleton.mp m]; exact ⟨hbR, by rw [fr_cons rfl]; exact hRf⟩)
    obtain ⟨av, als, aia, anf⟩ := id hia
    have hlen : ((vals.take i).foldl (fun ms v => meetInner v ms ms) [63]).length ≤ 256 := by
      refine Nat.le_trans (meetsL_len _ _) ?_
      have h1 : (vals.take i).length ≤ 8 := by rw [List.length_take]; omega
      have h2 : 2 ^ (vals.take i).length ≤ 2 ^ 8 := Nat.pow_le_pow_right (by decide) h1
      rw [List.length_singleton]
      omega
    generalize hms : (vals.take i).foldl (fun ms v => meetInner v ms ms) [63] = ms at *
    have hnext : (vals.take (i + 1)).foldl (fun ms v => meetInner v ms ms) [63] = meetInner v ms ms := by
      rw [List.take_add_one, hv, List.foldl_append, hms]; rfl
    refine wpXS ?_
    intro env₀ A₀ E₀ Q₀ s₀
    refine wpAny_execs_cons (For_of (L := L) (FS := L :: fr outer) (W0 := []) rfl rfl (by rfl) (Call_of rfl (nB (v := .type "list") H B₅.stays (by kernel_rfl) (by kernel_rfl) (sp1 (nL hn₅ (by walk_at "m") (sp0 ⟨keeps_type, list_ll als (by rw [aia.length, sizeLine_eq]; walk_at "o") fun D h₆ k₆ hDn hD => ?_⟩))))))
    have hn₆ := hn₅.keeps k₆
    have B₆ := below_kept B₅ k₆
    have hFS₆ : ∀ b ∈ L :: fr outer, ∃ o, h₆.get? b = some o := fun b m => by
      obtain ⟨_, o, e, _⟩ := fr_there B₆.frames (a := b) (by rw [fr_cons rfl]; exact m)
      exact ⟨o, e⟩
    have hDf : D ∉ L :: fr outer := fresh_notin B₅.frames hDn
    have hRD : R ≠ D := by rintro rfl; obtain ⟨_, e⟩ := hia.there; rw [hDn] at e; cases e
    have hLe : ∃ o, H₅.get? L = some o := by obtain ⟨o, _, _, e, _⟩ := hn₅; exact ⟨o, e⟩
    have hia₆ := hia.at (k₆ R)
    refine ⟨av.length, _, _, Src.list hh hD hDf hFS₆, .head _, _, hn₆, [R], ?_, by simp,
      fun bad' j m' h => m' "meets" = some (.ref R) ∧ m' "value" = some (.int v tv) ∧ IL (L :: fr outer) h R (meetInner v (ms.take j) ms) ∧ R ∉ L :: bad', ?_, ?_, ?_, ?_, ?_⟩
    · intro a m; rw [List.mem_singleton.mp m]; exact hia₆.there
    · intro a m; rw [List.mem_singleton.mp m]; simpa using hRD
    · intro bad' h hbad' kh
      refine ⟨by walk_at "m", by walk_at "m", hia₆.at (kh R), fun m => ?_⟩
      rcases List.mem_cons.mp m with q | m
      · exact hRL q
      · rcases hbad' _ m with q | q
        · exact absurd q List.not_mem_nil
        · obtain ⟨_, e⟩ := hia₆.there; rw [q] at e; cases e
    · rintro bad' i' m' h h' ⟨m1', m2', hi', ha'⟩ kk
      exact ⟨m1', m2', hi'.at fun o e => kk R o ha' e, ha'⟩
    · rintro bad' j el' m' H₇ tk₇ E'' hj hel' ⟨m1', m2', hja, ha'⟩ hn₇ r₇ hex' hbad'
      obtain ⟨mt, tm, rfl, hmt⟩ := ints_at aia hel'
      obtain ⟨bv, bls, bia, bnf⟩ := id hja
      have hlen' : (meetInner v (ms.take j) ms).length ≤ 512 := by
        have q1 := meetInner_len v (ms.take j) ms
        have q2 : (ms.take j).length ≤ ms.length := by rw [List.length_take]; omega
        omega
      have hnext' : meetInner v (ms.take (j + 1)) ms = meetAdd (meetInner v (ms.take j) ms) (Builtin.bitAnd mt (63 - v)) := by
        unfold meetInner
        rw [List.take_add_one, hmt, List.foldl_append]; rfl
      refine wpXS ?_
      intro env₀ A₀ E₀ Q₀ s₀
      refine wpAny_execs_cons (wpAny_If (wpAny_isTrue_Compare1 (wpAny_BinOp (nL hn₇ (by walk_at "m") (wpAny_BinOp (wpAny_Constant_int (nL hn₇ (by walk_at "m") (sub_int (and_int (nL hn₇ (by walk_at "m") (notin_list_ints bls.il bia (wpAny_truthy_bool ?_))))))))))))
      by_cases hmem : Builtin.bitAnd mt (63 - v) ∈ meetInner v (ms.take j) ms
      · have e1 : (meetInner v (ms.take j) ms).any (· == Builtin.bitAnd mt (63 - v)) = true := List.any_eq_true.mpr ⟨_, hmem, by simp⟩
        rw [e1, if_neg (by decide)]
        refine wpAny_execs_nil (wpAny_execs_nil ⟨_, H₇, _, rfl, hn₇, ⟨by walk_at "m", by walk_at "m", ?_, ha'⟩, .refl⟩)
        rw [hnext', meetAdd, if_pos hmem]; exact hja
      · have e1 : (meetInner v (ms.take j) ms).any (· == Builtin.bitAnd mt (63 - v)) = false := by
          rw [List.any_eq_false]; intro x hx hq; exact hmem (by rw [← beq_iff_eq.mp hq]; exact hx)
        rw [e1, if_pos (by decide)]
        have hm2 : meetInner v (ms.take (j + 1)) ms = meetInner v (ms.take j) ms ++ [Builtin.bitAnd mt (63 - v)] := by rw [hnext', meetAdd, if_neg hmem]
        refine wpXS ?_
        intro env₀ A₀ E₀ Q₀ s₀
        refine wpAny_execs_cons (App_stmt (nL hn₇ (by walk_at "m") ⟨R, bv, rfl, bls, wpAny_BinOp (nL hn₇ (by walk_at "m") (wpAny_BinOp (wpAny_Constant_int (nL hn₇ (by walk_at "m") (sub_int (and_int ⟨bv, bls, by rw [bia.length, sizeLine_eq]; omega, fun h₈ hl₈ hs₈ => ?_⟩))))))⟩))
        refine wpAny_execs_nil (wpAny_execs_nil ⟨_, h₈, _, rfl, hn₇.sameBut hs₈ (Ne.symm hRL), ⟨by walk_at "m", by walk_at "m", ⟨_, hl₈, ?_, hRf⟩, ha'⟩, .of_but hs₈.extBut (by simp)⟩)
        rw [hm2]; exact bia.append (.cons _ _ .nil)
    · rintro bad' m' h' tk' hn' ⟨m1', m2', hja, ha'⟩ r' hbad'
      refine wpAny_execs_nil ⟨m', h', _, rfl, hn', ⟨m1', ?_, ha⟩, ?_⟩
      · rw [hnext]
        rw [List.take_of_length_le (by rw [aia.length]; exact Nat.le_refl _)] at hja
        exact hja
      · exact (Ret.of_stays k₆).trans (r'.wide (by simp))
  · rintro bad m h' tk hn' ⟨m1, hia, ha⟩ r' hbad
    refine wpXS ?_
    intro env₀ A₀ E₀ Q₀ s₀
    refine wpAny_execs_cons (wpAny_Return_some (nL hn' m1 (h R h' _ (stays_none k hRn) ?_ ?_)))
    · rw [List.take_of_length_le (by rw [lia.length]; exact Nat.le_refl _)] at hia
      exact hia.less
    · exact (Ret.leave (X := [R]) hLs k₃ (r'.wide (by simp))).less (by intro a m; simp at m; subst m; exact .inr (stays_none k hRn))
end
end Mine
end

section
open PySem PySem.W PyProof.Rows
set_option maxRecDepth 100000
set_option maxHeartbeats 4000000
namespace Mine
open PySem PySem.Spec PySem.Calls PyProof.Rows PySem.W

noncomputable def b64u : Array UInt8 := ((List.range 26).map (fun i => (65 + i).toUInt8) ++ (List.range 26).map (fun i => (97 + i).toUInt8) ++ (List.range 10).map (fun i => (48 + i).toUInt8) ++ [43, 47]).toArray
noncomputable def b64L : List Int := (List.range 26).map (fun (i : Nat) => 65 + (i : Int)) ++ (List.range 26).map (fun (i : Nat) => 97 + (i : Int)) ++ (List.range 10).map (fun (i : Nat) => 48 + (i : Int)) ++ [43, 47]
theorem b64_ints : KBw.bInts b64u = b64L := by decide +kernel
noncomputable def b64at (i : Int) : Int := b64L.getD i.toNat 0

noncomputable def whileOut (lc : Int) : Nat → List Int
  | 0 => []
  | f + 1 => if 6 ≤ f + 1 then b64at (Builtin.bitAnd (lc.fdiv (2 ^ (f + 1 - 6))) 63) :: whileOut lc (f + 1 - 6) else []
noncomputable def byteStep (st : List Int × Nat × Int) (b : Int) : List Int × Nat × Int :=
  (st.1 ++ whileOut (Builtin.bitAnd (Builtin.bitOr (st.2.2 * 2 ^ 8) b) 65535) (st.2.1 + 8), (st.2.1 + 8) % 6, Builtin.bitAnd (Builtin.bitOr (st.2.2 * 2 ^ 8) b) 65535)
noncomputable def encSt (bs : List Int) : List Int × Nat × Int := bs.foldl byteStep ([], 0, 0)
noncomputable def encTail (lb : Nat) (lc : Int) : List Int :=
  if lb = 2 then [b64at (Builtin.bitAnd lc 3 * 2 ^ 4), 61, 61] else if lb = 4 then [b64at (Builtin.bitAnd lc 15 * 2 ^ 2), 61] else []
noncomputable def enc (bs : List Int) : List Int := (encSt bs).1 ++ encTail (encSt bs).2.1 (encSt bs).2.2

section
variable {w : World} {mg mb : Str → Option Value} {hb : Heap} {prog : Program} {A : Around} {outer : List Env} {s : Shared} {E : Value → Shared → Prop}

/-- a def of the top is entered, with keywords -/
theorem enterW {f : Addr} {args : List Value} {kw : List (Str × Value)} {binds : List (Str × Value)} {oc : Value} {od : Option Addr} {osl : Array (Option Value)} {name qual : Str} {params : Arguments} {body : List Stmt} {scope : Scope} {cl : List (Str × Addr)} {dV kV doc pm cdv ct : Value} {an : Option Addr}
    {Q : Value → Shared → Prop} {E : Value → Shared → Prop}
    (H : Bs w mg mb hb) (B : Below A hb outer s.heap) (hroom : A.depth < recursionLimit)
    (ho : (TopF w.params).lookup f = some ⟨oc, od, .func (fnX name qual params body scope cl dV kV doc pm an cdv ct), osl⟩)
    (hcd : codeIn (TopF w.params) cdv qual = true)
    (hbind : BindsTo s (fnX name qual params body scope cl dV kV doc pm an cdv ct) ⟨args, kw⟩ binds) (hloc : ∀ y ∈ binds, scope.names.lookup y.1 = some .local)
    (hcell : ∀ x ∈ scope.names, x.2 ≠ .cell)
    (h : ∀ L h₁, L = s.heap.objs.size → h₁.Ns L (fun y => binds.reverse.lookup y) → s.heap.StaysIn h₁ → Below (A.deeper (envX qual scope L f cdv cl)) hb (envX qual scope L f cdv cl :: outer) h₁ →
      wpAny (model prog w) (A.deeper (envX qual scope L f cdv cl)) (execs body (envX qual scope L f cdv cl))
        (fun fl s' => Q (match fl with | .ret v => v | _ => .none) s')
        (fun e s' => wpAny (model prog w) (A.deeper (envX qual scope L f cdv cl)) (leaving (envX qual scope L f cdv cl) e) (fun _ s'' => E e s'') (fun e' s'' => E e' s'') s')
        { s with heap := h₁, toks := s.toks + binds.length })
    (hco : scope.isCoroutine = false := by rfl) (hgen : scope.isGenerator = false := by rfl) (hk : scope.kind = .function := by rfl) :
    wpAny (model prog w) A (call (.ref f) args kw) Q E s := by
  refine wpAny_call (codeAny_call_def (fd := fnX name qual params body scope cl dV kV doc pm an cdv ct) (body := body) (binds := binds) hroom (B.stays _ _ (H.X _ _ ho)) rfl (H.lim.keeps B.stays) (codeRec_of (H.X.keeps B.stays) hcd) rfl hbind hcell hloc (fun h₁ hns hk₁ => ?_) hco hgen hk)
  exact h _ h₁ rfl hns hk₁ (below_push B rfl (by show scope.kind ≠ _; rw [hk]; decide) rfl hk₁ hns)

theorem buffer_fn {b : Array UInt8} {t : Tok} {Q : Value → Shared → Prop} (H : Bs w mg mb hb) (B : Below A hb outer s.heap) (hd : A.depth < recursionLimit)
    (h : ∀ h' tk, s.heap.StaysIn h' → Q (.bytes b t) { s with heap := h', toks := tk }) : wpAny (model prog w) A (call (.ref 72) [.bytes b t]) Q E s := by
  have ho : (TopF w.params).lookup 72 = some ⟨_, _, .func (fnX _ _ _ _ _ _ _ _ _ _ _ _ _), _⟩ := rfl
  refine enter (binds := [("data", .bytes b t)]) H B hd ho (by kernel_rfl) (BindsTo.of_eq rfl) (locs rfl) (by decide) fun L h₁ hLs hn₁ k B₁ => ?_
  clear ho
  have hLn : s.heap.get? L = none := Heap.get?_none_of_le (by rw [hLs]; exact Nat.le_refl _)
  have hbL : hb.get? L = none := (fr_there B₁.frames (.head _)).1
  refine wpXS ?_
  intro env₀ A₀ E₀ Q₀ s₀
  refine wpAny_execs_cons (wpAny_Assign_Name (Call_of rfl (nB (v := .type "type") H B₁.stays (by kernel_rfl) (by kernel_rfl) (sp1 (nL hn₁ (by walk_at "m") (sp0 ⟨keeps_type, call_type_of (typeIs_bytes _ _ _) (by decide) (sL hn₁ fun h₂ hn₂ hs₂ => ?_)⟩))))))
  have B₂ := below_same B₁ hbL hs₂ hn₂
  refine wpXS ?_
  intro env₀ A₀ E₀ Q₀ s₀
  refine wpAny_execs_cons (wpAny_If (wpAny_isTrue_Compare1 (nL hn₂ (by walk_at "m") (nB (v := .type "bytes") H B₂.stays (by kernel_rfl) (by kernel_rfl) (wpAny_is_self (by decide) (wpAny_truthy_bool ?_))))))
  rw [if_pos rfl]
  exact wpAny_execs_cons (wpAny_Return_some (nL hn₂ (by walk_at "m") (h h₂ _ (fun b o e => hs₂.extBut b o (fun q => by rw [q, hLn] at e; cases e) (k b o e)))))

theorem truth_fn {b : Bool} {Q : Value → Shared → Prop} (H : Bs w mg mb hb) (B : Below A hb outer s.heap) (hd : A.depth < recursionLimit)
    (h : ∀ h' tk, s.heap.StaysIn h' → Q (.bool b) { s with heap := h', toks := tk }) : wpAny (model prog w) A (call (.ref 79) [.bool b]) Q E s := by
  have ho : (TopF w.params).lookup 79 = some ⟨_, _, .func (fnX _ _ _ _ _ _ _ _ _ _ _ _ _), _⟩ := rfl
  refine enter (binds := [("x", .bool b)]) H B hd ho (by kernel_rfl) (BindsTo.of_eq rfl) (locs rfl) (by decide) fun L h₁ hLs hn₁ k B₁ => ?_
  clear ho
  have hLn : s.heap.get? L = none := Heap.get?_none_of_le (by rw [hLs]; exact Nat.le_refl _)
  have hbL : hb.get? L = none := (fr_there B₁.frames (.head _)).1
  refine wpXS ?_
  intro env₀ A₀ E₀ Q₀ s₀
  refine wpAny_execs_cons (wpAny_Assign_Name (Call_of rfl (nB (v := .type "type") H B₁.stays (by kernel_rfl) (by kernel_rfl) (sp1 (nL hn₁ (by walk_at "m") (sp0 ⟨keeps_type, call_type_of (PyProof.Rows.typeIs_bool _ _) (by decide) (sL hn₁ fun h₂ hn₂ hs₂ => ?_)⟩))))))
  have B₂ := below_same B₁ hbL hs₂ hn₂
  refine wpXS ?_
  intro env₀ A₀ E₀ Q₀ s₀
  refine wpAny_execs_cons (wpAny_If (isTrue_or (wpAny_isTrue_Compare1 (nL hn₂ (by walk_at "m") (Constant_none (is_none_ne (by intro x; cases x) (wpAny_truthy_bool ?_)))))))
  rw [if_neg (by decide)]
  refine isTrue_or (wpAny_isTrue_Compare1 (nL hn₂ (by walk_at "m") (nB (v := .type "bool") H B₂.stays (by kernel_rfl) (by kernel_rfl) (wpAny_is_self (by decide) (wpAny_truthy_bool ?_)))))
  rw [if_pos rfl]
  refine wpXS ?_
  intro env₀ A₀ E₀ Q₀ s₀
  refine wpAny_execs_cons (wpAny_Return_some (wpAny_IfExp (isTrue_plain (nL hn₂ (by walk_at "m") (wpAny_truthy_bool ?_)))))
  have hk₂ : s.heap.StaysIn h₂ := fun b o e => hs₂.extBut b o (fun q => by rw [q, hLn] at e; cases e) (k b o e)
  cases b
  · rw [if_neg (by decide)]
    exact Constant_bool (h h₂ _ hk₂)
  · rw [if_pos rfl]
    exact Constant_bool (h h₂ _ hk₂)
end
end Mine
end

section
open PySem PySem.W PyProof.Rows
set_option maxRecDepth 100000
set_option maxHeartbeats 4000000
namespace Mine
open PySem PySem.Spec PySem.Calls PyProof.Rows PySem.W

theorem whileOut_step (lc : Int) {lb : Nat} (h : 6 ≤ lb) : whileOut lc lb = b64at (Builtin.bitAnd (lc.fdiv (2 ^ (lb - 6))) 63) :: whileOut lc (lb - 6) := by
  cases lb with
  | zero => omega
  | succ f => rw [whileOut, if_pos h]
theorem whileOut_end (lc : Int) {lb : Nat} (h : ¬ 6 ≤ lb) : whileOut lc lb = [] := by
  cases lb with
  | zero => rw [whileOut]
  | succ f => rw [whileOut, if_neg h]
theorem whileOut_len (lc : Int) : ∀ lb, (whileOut lc lb).length ≤ lb := by
  intro lb
  induction lb using Nat.strongRecOn with
  | ind lb ih =>
    by_cases h : 6 ≤ lb
    · rw [whileOut_step lc h, List.length_cons]
      have := ih (lb - 6) (by walk_at "o")
      omega
    · rw [whileOut_end lc h]; exact Nat.zero_le _
noncomputable def encAt (bs : List Int) (i : Nat) : List Int × Nat × Int := encSt (bs.take i)
theorem encAt_succ {bs : List Int} {i : Nat} {b : Int} (e : bs[i]? = some b) : encAt bs (i + 1) = byteStep (encAt bs i) b := by
  unfold encAt encSt
  rw [List.take_add_one, e, List.foldl_append]; rfl
theorem encAt_lb (bs : List Int) (i : Nat) : (encAt bs i).2.1 < 6 := by
  induction i with
  | zero => exact (by decide : (0 : Nat) < 6)
  | succ i ih =>
    cases e : bs[i]? with
    | none =>
      have : bs.take (i + 1) = bs.take i := by rw [List.take_add_one, e]; simp
      unfold encAt at ih ⊢; rw [this]; exact ih
    | some b => rw [encAt_succ e]; exact Nat.mod_lt _ (by decide)
theorem encAt_lc (bs : List Int) (i : Nat) : 0 ≤ (encAt bs i).2.2 ∧ (encAt bs i).2.2 ≤ 65535 := by
  induction i with
  | zero => exact (by decide : (0 : Int) ≤ 0 ∧ (0 : Int) ≤ 65535)
  | succ i ih =>
    cases e : bs[i]? with
    | none =>
      have : bs.take (i + 1) = bs.take i := by rw [List.take_add_one, e]; simp
      unfold encAt at ih ⊢; rw [this]; exact ih
    | some b => rw [encAt_succ e]; exact bitAnd_range _ (by decide)
theorem encAt_len (bs : List Int) (i : Nat) : (encAt bs i).1.length ≤ 14 * i := by
  induction i with
  | zero => exact Nat.le_refl 0
  | succ i ih =>
    cases e : bs[i]? with
    | none =>
      have : bs.take (i + 1) = bs.take i := by rw [List.take_add_one, e]; simp
      unfold encAt at ih ⊢; rw [this]; omega
    | some b =>
      rw [encAt_succ e]
      have q := whileOut_len (Builtin.bitAnd (Builtin.bitOr ((encAt bs i).2.2 * 2 ^ 8) b) 65535) ((encAt bs i).2.1 + 8)
      have q2 := encAt_lb bs i
      show ((encAt bs i).1 ++ _).length ≤ _
      rw [List.length_append]
      omega
theorem b64at_in {i : Int} : 0 ≤ b64at i ∧ b64at i < 256 := by
  unfold b64at
  have h : ∀ k ∈ b64L, 0 ≤ k ∧ k < 256 := by decide
  rw [List.getD_eq_getElem?_getD]
  cases e : b64L[i.toNat]? with
  | none => decide
  | some k => exact h k (List.mem_of_getElem? e)

theorem whileOut_in (lc : Int) : ∀ lb, ∀ x ∈ whileOut lc lb, 0 ≤ x ∧ x < 256 := by
  intro lb
  induction lb using Nat.strongRecOn with
  | ind lb ih =>
    intro x hx
    by_cases h : 6 ≤ lb
    · rw [whileOut_step lc h] at hx
      rcases List.mem_cons.mp hx with rfl | hx
      · exact b64at_in
      · exact ih (lb - 6) (by walk_at "o") x hx
    · rw [whileOut_end lc h] at hx; cases hx
theorem encAt_in (bs : List Int) (i : Nat) : ∀ x ∈ (encAt bs i).1, 0 ≤ x ∧ x < 256 := by
  induction i with
  | zero => intro x hx; cases hx
  | succ i ih =>
    cases e : bs[i]? with
    | none =>
      have : bs.take (i + 1) = bs.take i := by rw [List.take_add_one, e]; simp
      unfold encAt at ih ⊢; rw [this]; exact ih
    | some b =>
      rw [encAt_succ e]
      intro x hx
      rcases List.mem_append.mp hx with hx | hx
      · exact ih x hx
      · exact whileOut_in _ _ x hx

section
variable {w : World} {mg mb : Str → Option Value} {hb : Heap} {prog : Program} {A : Around} {outer : List Env} {s : Shared} {E : Value → Shared → Prop}

theorem b2a_fn {b : Array UInt8} {t : Tok} {Q : Value → Shared → Prop} (H : Bs w mg mb hb) (B : Below A hb outer s.heap) (hd : A.depth + 2 < recursionLimit) (hh : A.handled = none) (hz : b.size ≤ 100)
    (h : ∀ h' tk t', Ret [] (fr outer) s.heap h' → (∀ x ∈ enc (KBw.bInts b), 0 ≤ x ∧ x < 256) → Q (.bytes (byteArr (enc (KBw.bInts b))) t') { s with heap := h', toks := tk }) : wpAny (model prog w) A (call (.ref 87) [.bytes b t] [("newline", .bool false)]) Q E s := by
  have ho : (TopF w.params).lookup 87 = some ⟨_, _, .func (fnX _ _ _ _ _ _ _ _ _ _ _ _ _), _⟩ := rfl
  refine enterW (binds := [("data", .bytes b t), ("newline", .bool false)]) H B (by walk_at "o") ho (by kernel_rfl) (BindsTo.of_eq rfl) (locs rfl) (by decide) fun L h₁ hLs hn₁ k B₁ => ?_
  clear ho
  have hLn : s.heap.get? L = none := Heap.get?_none_of_le (by rw [hLs]; exact Nat.le_refl _)
  have hbL : hb.get? L = none := (fr_there B₁.frames (.head _)).1
  have f72 : (TopF w.params).lookup 72 = some ⟨_, _, .func (fnX _ _ _ _ _ _ _ _ _ _ _ _ _), _⟩ := rfl
  have f79 : (TopF w.params).lookup 79 = some ⟨_, _, .func (fnX _ _ _ _ _ _ _ _ _ _ _ _ _), _⟩ := rfl
  refine wpXS ?_
  intro env₀ A₀ E₀ Q₀ s₀
  refine wpAny_execs_cons (wpAny_Assign_Name (Call_of rfl (nG (v := .ref 72) H B₁.stays (by kernel_rfl) (sp1 (nL hn₁ (by walk_at "m") (sp0 ⟨keeps_func (B₁.stays _ _ (H.X _ _ f72)) rfl, buffer_fn H B₁ (by show A.depth + 1 < _; walk_at "o") fun h₂ tk₂ k₂ => ?_⟩))))))
  refine sL (hn₁.keeps k₂) fun h₃ hn₃ hs₃ => ?_
  have B₃ := below_same (below_kept B₁ k₂) hbL hs₃ hn₃
  refine wpXS ?_
  intro env₀ A₀ E₀ Q₀ s₀
  refine wpAny_execs_cons (wpAny_Assign_Name (Call_of rfl (nG (v := .ref 79) H B₃.stays (by kernel_rfl) (sp1 (nL hn₃ (by walk_at "m") (sp0 ⟨keeps_func (B₃.stays _ _ (H.X _ _ f79)) rfl, truth_fn H B₃ (by show A.depth + 1 < _; walk_at "o") fun h₄ tk₄ k₄ => ?_⟩))))))
  refine sL (hn₃.keeps k₄) fun h₅ hn₅ hs₅ => ?_
  have B₅ := below_same (below_kept B₃ k₄) hbL hs₅ hn₅
  refine wpXS ?_
  intro env₀ A₀ E₀ Q₀ s₀
  refine wpAny_execs_cons (wpAny_Assign_Name (Disp (sp0 ⟨by simp, fun R h₆ k₆ hRn hR => sL (hn₅.keeps k₆) fun h₇ hn₇ hs₇ => ?_⟩)))
  have B₇ := below_same (below_kept B₅ k₆) hbL hs₇ hn₇
  refine wpXS ?_
  intro env₀ A₀ E₀ Q₀ s₀
  refine wpAny_execs_cons (wpAny_Assign_Name (wpAny_Constant_int (sL hn₇ fun h₈ hn₈ hs₈ => ?_)))
  have B₈ := below_same B₇ hbL hs₈ hn₈
  refine wpXS ?_
  intro env₀ A₀ E₀ Q₀ s₀
  refine wpAny_execs_cons (wpAny_Assign_Name (wpAny_Constant_int (sL hn₈ fun h₉ hn₉ hs₉ => ?_)))
  have B₉ := below_same B₈ hbL hs₉ hn₉
  have ex : ∀ {a : Addr} {o : Obj}, s.heap.get? a = some o → a ≠ L := fun e q => by rw [q, hLn] at e; cases e
  have k₀₉ : s.heap.StaysIn h₉ := fun a o e => hs₉.extBut a o (ex e) (hs₈.extBut a o (ex e) (hs₇.extBut a o (ex e) (k₆ _ _ (hs₅.extBut a o (ex e) (k₄ _ _ (hs₃.extBut a o (ex e) (k₂ _ _ (k _ _ e))))))))
  have hRL : R ≠ L := by rintro rfl; obtain ⟨o, _, _, e, _⟩ := hn₅; rw [hRn] at e; cases e
  have hR₉ : LS h₉ R [] := hR.at fun o e => hs₉.extBut R o hRL (hs₈.extBut R o hRL (hs₇.extBut R o hRL e))
  have hRs : s.heap.get? R = none := by
    cases q : s.heap.get? R with
    | none => rfl
    | some o =>
      have : h₅.get? R = some o := hs₅.extBut R o (ex q) (k₄ _ _ (hs₃.extBut R o (ex q) (k₂ _ _ (k _ _ q))))
      rw [hRn] at this; cases this
  have hRf : R ∉ L :: fr outer := fun q => by
    rcases List.mem_cons.mp q with q | q
    · exact hRL q
    · exact fresh_notin B.frames hRs q
  have hbR : hb.get? R = none := stays_none B.stays hRs
  clear hs₃ hn₃ B₃ hs₅ hn₅ B₅ hs₇ hn₇ B₇ hs₈ hn₈ B₈ hs₉ hR k₂ k₄ k₆
  have hFS : ∀ b ∈ L :: fr outer, ∃ o, h₉.get? b = some o := fun b m => by
    obtain ⟨_, o, e, _⟩ := fr_there B₉.frames (a := b) (by rw [fr_cons rfl]; exact m)
    exact ⟨o, e⟩
  dsimp only
  refine wpXS ?_
  intro env₀ A₀ E₀ Q₀ s₀
  refine wpAny_execs_cons (For_of (L := L) (FS := L :: fr outer) (W0 := []) rfl rfl (by rfl) (nL hn₉ (by walk_at "m") ⟨b.size, _, _, Src.bytes hh hFS, .head _, _, hn₉, [R], ?_, by simp,
    fun bad i m h => m "out" = some (.ref R) ∧ m "newline" = some (.bool false) ∧ (∃ t, m "leftbits" = some (.int (encAt (KBw.bInts b) i).2.1 t)) ∧ (∃ t, m "leftchar" = some (.int (encAt (KBw.bInts b) i).2.2 t)) ∧ IL (L :: fr outer) h R (encAt (KBw.bInts b) i).1 ∧ R ∉ L :: bad, ?_, ?_, ?_, ?_, ?_⟩))
  · intro a m; rw [List.mem_singleton.mp m]; exact hR₉.there
  · simp
  · intro bad h hbad kh
    refine ⟨by walk_at "m", by walk_at "m", ⟨_, by walk_at "m"⟩, ⟨_, by walk_at "m"⟩, ⟨[], hR₉.at (kh R), .nil, hRf⟩, fun m => ?_⟩
    rcases List.mem_cons.mp m with q | m
    · exact hRL q
    · rcases hbad _ m with q | q
      · exact absurd q List.not_mem_nil
      · obtain ⟨_, e⟩ := hR₉.there; rw [q] at e; cases e
  · rintro bad i m h h' ⟨m1, m2, m3, m4, hi, ha⟩ kk
    exact ⟨m1, m2, m3, m4, hi.at fun o e => kk R o ha e, ha⟩
  · rintro bad i el m H₅ tk₅ E' hi ⟨c, u, hc, rfl⟩ ⟨m1, m2, ⟨t3, m3⟩, ⟨t4, m4⟩, hia, ha⟩ hn₅ r₅ hex hbad
    have hcx := KBw.ints_get hc
    have hst := encAt_succ hcx
    have hlb := encAt_lb (KBw.bInts b) i
    have hlc := encAt_lc (KBw.bInts b) i
    have hln := encAt_len (KBw.bInts b) i
    generalize encAt (KBw.bInts b) i = st at *
    obtain ⟨out, lb, lc⟩ := st
    dsimp only at m3 m4 hia hlb hlc hln
    have B₅ := below_upd (X := [R]) B₉ r₅ hn₅ hbL (fun a m => by rw [List.mem_singleton.mp m]; exact ⟨hbR, by rw [fr_cons rfl]; exact hRf⟩)
    refine wpXS ?_
    intro env₀ A₀ E₀ Q₀ s₀
    refine wpAny_execs_cons (wpAny_Assign_Name (wpAny_BinOp (wpAny_BinOp (wpAny_BinOp (nL hn₅ (by walk_at "m") (wpAny_Constant_int (lshift_int_small (by decide) (by decide) (by walk_at "o") (nL hn₅ (by walk_at "m") (or_int (wpAny_Constant_int (and_int (sL hn₅ fun h₆ hn₆ hs₆ => ?_))))))))))))
    refine wpXS ?_
    intro env₀ A₀ E₀ Q₀ s₀
    refine wpAny_execs_cons (wpAny_Assign_Name (wpAny_BinOp (nL hn₆ (by walk_at "m") (wpAny_Constant_int (add_int (sL hn₆ fun h₇ hn₇ hs₇ => ?_))))))
    dsimp only
    have hLC := bitAnd_range (Builtin.bitOr (lc * 2 ^ 8) (c.toNat : Int)) (y := 65535) (by decide)
    have hst' : encAt (KBw.bInts b) (i + 1) = (out ++ whileOut (Builtin.bitAnd (Builtin.bitOr (lc * 2 ^ 8) (c.toNat : Int)) 65535) (lb + 8), (lb + 8) % 6, Builtin.bitAnd (Builtin.bitOr (lc * 2 ^ 8) (c.toNat : Int)) 65535) := hst
    rw [show Builtin.bitOr (lc * 2 ^ (8 : Int).toNat) (c.toNat : Int) = Builtin.bitOr (lc * 2 ^ 8) (c.toNat : Int) from rfl] at *
    generalize Builtin.bitAnd (Builtin.bitOr (lc * 2 ^ 8) (c.toNat : Int)) 65535 = LC at *
    have r₇ : Ret [L, R] (L :: fr outer) H₅ h₇ := (Ret.of_but hs₆.extBut (by simp)).trans (.of_but hs₇.extBut (by simp))
    have hi₇ : IL (L :: fr outer) h₇ R out := (hia.at fun o e => hs₆.extBut R o hRL e).at fun o e => hs₇.extBut R o hRL e
    refine wpXS ?_
    intro env₀ A₀ E₀ Q₀ s₀
    refine wpAny_execs_cons (wpAny_While (codeAny_whileLoop (fun n s' => Ex4 fun h' tk m' o' => s' = { s with heap := h', toks := tk } ∧ h'.Ns L m' ∧ m' "out" = some (.ref R) ∧ m' "newline" = some (.bool false) ∧ (∃ t, m' "leftbits" = some (.int (n : Int) t)) ∧ (∃ t, m' "leftchar" = some (.int LC t)) ∧
      IL (L :: fr outer) h' R o' ∧ o' ++ whileOut LC n = out ++ whileOut LC (lb + 8) ∧ o'.length + n ≤ out.length + (lb + 8) ∧ n % 6 = (lb + 8) % 6 ∧ Ret [L, R] (L :: fr outer) H₅ h') ?_ (lb + 8)
      ⟨h₇, _, _, out, rfl, hn₇, by walk_at "m", by walk_at "m", ⟨_, by simp; rfl⟩, ⟨_, by walk_at "m"⟩, hi₇, rfl, Nat.le_refl _, rfl, r₇⟩))
    rintro n s' ⟨h', tk, m', o', rfl, hn', e1, e2, ⟨t5, e5⟩, ⟨t6, e6⟩, hi', ew, el, em, r'⟩
    have B' := below_upd (X := [R]) B₉ ((r₅.trans (r'.wide (by simp))) : Ret ([L, R] ++ []) (L :: fr outer) h₉ h') hn' hbL (fun a m => by rw [List.mem_singleton.mp m]; exact ⟨hbR, by rw [fr_cons rfl]; exact hRf⟩)
    refine wpAny_isTrue_Compare1 (nL hn' e5 (wpAny_Constant_int (ge_int (wpAny_truthy_bool ?_))))
    by_cases hge : 6 ≤ n
    · rw [if_pos (decide_eq_true (by walk_at "o" : (n : Int) ≥ 6))]
      have hv : 0 ≤ Builtin.bitAnd (LC.fdiv (2 ^ (n - 6))) 63 ∧ Builtin.bitAnd (LC.fdiv (2 ^ (n - 6))) 63 ≤ 63 := bitAnd_range _ (by decide)
      have hsub : ((n : Int) - 6).toNat = n - 6 := by walk_at "o"
      obtain ⟨ov, ols, oia, onf⟩ := id hi'
      refine wpXS ?_
      intro env₀ A₀ E₀ Q₀ s₀
      refine wpAny_execs_cons (App_stmt (nL hn' e1 ⟨R, ov, rfl, ols, Subscript_ (nG (v := .bytes b64u 274) H B'.stays (by kernel_rfl) (wpAny_BinOp (wpAny_BinOp (nL hn' e6 (wpAny_BinOp (nL hn' e5 (wpAny_Constant_int (sub_int (rshift_int (by walk_at "o") (wpAny_Constant_int (and_int (KBw.item_K b64_ints (by decide) (by rw [hsub]; exact hv.1) (by rw [hsub]; exact Int.lt_of_le_of_lt hv.2 (by decide)) fun t' k' _ _ => ?_))))))))))))⟩))
      refine ⟨ov, ols, by rw [oia.length, sizeLine_eq]; omega, fun h₈ hl₈ hs₈ => ?_⟩
      have hn₈ := hn'.sameBut hs₈ (Ne.symm hRL)
      refine wpXS ?_
      intro env₀ A₀ E₀ Q₀ s₀
      refine wpAny_execs_cons (wpAny_Assign_Name (wpAny_BinOp (nL hn₈ e5 (wpAny_Constant_int (sub_int (sL hn₈ fun h₉' hn₉' hs₉' => ?_))))))
      have hw := whileOut_step LC hge
      have hn6e : ((n - 6 : Nat) : Int) = (n : Int) - 6 := by walk_at "o"
      refine wpAny_execs_nil ⟨n - 6, by walk_at "o", h₉', _, _, o' ++ [b64at (Builtin.bitAnd (LC.fdiv (2 ^ (n - 6))) 63)], rfl, hn₉', by walk_at "m", by walk_at "m", ⟨_, by rw [hn6e]; exact if_pos rfl⟩, ⟨_, by walk_at "m"⟩, ⟨_, hl₈.at fun o e => hs₉'.extBut R o hRL e, ?_, onf⟩, ?_, ?_, by walk_at "o", ?_⟩
      · rw [← hsub]
        exact oia.append (.cons _ _ .nil)
      · rw [← ew, hw, List.append_assoc]; rfl
      · rw [List.length_append, List.length_singleton]; omega
      · exact (r'.trans (.of_but hs₈.extBut (by simp))).trans (.of_but hs₉'.extBut (by simp))
    · rw [if_neg (by rw [decide_eq_true_eq]; walk_at "o")]
      have hw := whileOut_end LC hge
      rw [hw, List.append_nil] at ew
      have hn6 : n = (lb + 8) % 6 := by walk_at "o"
      refine wpAny_execs_nil (wpAny_execs_nil ⟨m', h', _, rfl, hn', ⟨e1, e2, ⟨t5, ?_⟩, ⟨t6, ?_⟩, ?_, ha⟩, r'⟩)
      · rw [hst', e5, hn6]
      · rw [hst', e6]
      · rw [hst', ← ew]; exact hi'
  · rintro bad m h' tk hn' ⟨m1, m2, ⟨t3, m3⟩, ⟨t4, m4⟩, hia, ha⟩ r' hbad
    have hall : (KBw.bInts b).take b.size = KBw.bInts b := List.take_of_length_le (by rw [KBw.ints_length]; exact Nat.le_refl _)
    have hln := encAt_len (KBw.bInts b) b.size
    have hlc := encAt_lc (KBw.bInts b) b.size
    have henc : enc (KBw.bInts b) = (encAt (KBw.bInts b) b.size).1 ++ encTail (encAt (KBw.bInts b) b.size).2.1 (encAt (KBw.bInts b) b.size).2.2 := by
      unfold encAt; rw [hall]; rfl
    have hin : ∀ x ∈ (encAt (KBw.bInts b) b.size).1, 0 ≤ x ∧ x < 256 := encAt_in _ _
    generalize encAt (KBw.bInts b) b.size = st at *
    obtain ⟨out, lb, lc⟩ := st
    dsimp only at m3 m4 hia hln hlc henc hin ⊢
    have B' := below_upd (X := [R]) B₉ r' hn' hbL (fun a m => by rw [List.mem_singleton.mp m]; exact ⟨hbR, by rw [fr_cons rfl]; exact hRf⟩)
    obtain ⟨ov, ols, oia, onf⟩ := id hia
    have hbits : ∀ (lb : Nat), (((lb : Nat) : Int) == 2) = decide (lb = 2) ∧ (((lb : Nat) : Int) == 4) = decide (lb = 4) := fun lb => by
      refine ⟨?_, ?_⟩ <;> (rw [Bool.eq_iff_iff]; simp; walk_at "o")
    have hbs : ∀ {g g' : Heap}, hb.StaysIn g → Heap.SameBut R g g' → hb.StaysIn g' := fun k s b o e => s.extBut b o (fun q => by rw [q, hbR] at e; cases e) (k b o e)
    have keep : ∀ {h₂ : Heap}, Ret (L :: [R]) (L :: fr outer) h' h₂ → Ret [] (fr outer) s.heap h₂ := fun {h₂} r₂ =>
      (Ret.leave (X := [R]) hLs k₀₉ (r'.trans (r₂.wide (by simp)))).less (by intro a m; simp at m; subst m; exact .inr hRs)
    refine wpXS ?_
    intro env₀ A₀ E₀ Q₀ s₀
    refine wpAny_execs_cons (wpAny_If (wpAny_isTrue_Compare1 (nL hn' m3 (wpAny_Constant_int (eq_int (wpAny_truthy_bool ?_))))))
    rw [(hbits lb).1]
    have l61 : (0 : Int) ≤ 61 ∧ (61 : Int) < 256 := by decide
    by_cases h2 : lb = 2
    · rw [if_pos (decide_eq_true h2)]
      have hv := bitAnd_range lc (y := 3) (by decide)
      have hb48 : Builtin.bitAnd lc 3 * 2 ^ (4 : Int).toNat = Builtin.bitAnd lc 3 * 16 := rfl
      have hb48' : Builtin.bitAnd lc 3 * 2 ^ 4 = Builtin.bitAnd lc 3 * 16 := rfl
      refine wpXS ?_
      intro env₀ A₀ E₀ Q₀ s₀
      refine wpAny_execs_cons (App_stmt (nL hn' m1 ⟨R, ov, rfl, ols, Subscript_ (nG (v := .bytes b64u 274) H B'.stays (by kernel_rfl) (wpAny_BinOp (wpAny_BinOp (nL hn' m4 (wpAny_Constant_int (and_int (wpAny_Constant_int (lshift_int_small (by decide) (by decide) (by walk_at "o") (KBw.item_K b64_ints (by decide) (by rw [hb48]; walk_at "o") (by rw [hb48]; show _ < (64 : Int); walk_at "o") fun t' k' _ _ => ?_)))))))))⟩))
      refine ⟨ov, ols, by rw [oia.length, sizeLine_eq]; omega, fun g₁ hl₁ hs₁ => ?_⟩
      have hg₁ := hn'.sameBut hs₁ (Ne.symm hRL)
      refine wpXS ?_
      intro env₀ A₀ E₀ Q₀ s₀
      refine wpAny_execs_cons (App_stmt (nL hg₁ m1 ⟨R, _, rfl, hl₁, wpAny_Constant_int ⟨_, hl₁, by rw [List.length_append, oia.length, sizeLine_eq]; simp; omega, fun g₂ hl₂ hs₂ => ?_⟩⟩))
      have hg₂ := hg₁.sameBut hs₂ (Ne.symm hRL)
      refine wpXS ?_
      intro env₀ A₀ E₀ Q₀ s₀
      refine wpAny_execs_cons (App_stmt (nL hg₂ m1 ⟨R, _, rfl, hl₂, wpAny_Constant_int ⟨_, hl₂, by rw [List.length_append, List.length_append, oia.length, sizeLine_eq]; simp; omega, fun g₃ hl₃ hs₃ => ?_⟩⟩))
      have hg₃ := hg₂.sameBut hs₃ (Ne.symm hRL)
      have st₃ := hbs (hbs (hbs B'.stays hs₁) hs₂) hs₃
      have r₃ : Ret (L :: [R]) (L :: fr outer) h' g₃ := ((Ret.of_but hs₁.extBut (by simp)).trans (.of_but hs₂.extBut (by simp))).trans (.of_but hs₃.extBut (by simp))
      have henc' : enc (KBw.bInts b) = out ++ [b64at (Builtin.bitAnd lc 3 * 2 ^ 4)] ++ [61] ++ [61] := by rw [henc]; unfold encTail; rw [if_pos h2]; simp
      refine wpXS ?_
      intro env₀ A₀ E₀ Q₀ s₀
      refine wpAny_execs_nil (wpAny_execs_cons (wpAny_If (isTrue_plain (nL hg₃ m2 (wpAny_truthy_bool ?_)))))
      rw [if_neg (by decide)]
      refine wpXS ?_
      intro env₀ A₀ E₀ Q₀ s₀
      refine wpAny_execs_nil (wpAny_execs_cons (wpAny_Return_some (Call_of rfl (nB (v := .type "bytes") H st₃ (by kernel_rfl) (by kernel_rfl) (sp1 (nL hg₃ m1 (sp0 ⟨keeps_type, ?_⟩)))))))
      have rng : ∀ x ∈ enc (KBw.bInts b), 0 ≤ x ∧ x < 256 := by
        intro x hx; rw [henc'] at hx
        rcases List.mem_append.mp hx with hx | hx
        · rcases List.mem_append.mp hx with hx | hx
          · rcases List.mem_append.mp hx with hx | hx
            · exact hin x hx
            · rw [List.mem_singleton.mp hx]; exact b64at_in
          · rw [List.mem_singleton.mp hx]; exact l61
        · rw [List.mem_singleton.mp hx]; exact l61
      refine call_bytes_ints (ns := enc (KBw.bInts b)) hl₃.il (by rw [henc']; exact ((oia.append (.cons _ t' .nil)).append (.cons (61 : Int) _ .nil)).append (.cons (61 : Int) _ .nil)) rng (by simp only [List.length_append, oia.length, sizeLine_eq, List.length_singleton]; walk_at "o") hh fun h₃ t₃ k₃ kk₃ => ?_
      exact h h₃ k₃ t₃ ((keep r₃).trans (.of_stays kk₃)) rng
    · rw [if_neg (by simpa using h2)]
      refine wpXS ?_
      intro env₀ A₀ E₀ Q₀ s₀
      refine wpAny_execs_cons (wpAny_If (wpAny_isTrue_Compare1 (nL hn' m3 (wpAny_Constant_int (eq_int (wpAny_truthy_bool ?_))))))
      rw [(hbits lb).2]
      by_cases h4 : lb = 4
      · rw [if_pos (decide_eq_true h4)]
        have hv := bitAnd_range lc (y := 15) (by decide)
        have hb48 : Builtin.bitAnd lc 15 * 2 ^ (2 : Int).toNat = Builtin.bitAnd lc 15 * 4 := rfl
        refine wpXS ?_
        intro env₀ A₀ E₀ Q₀ s₀
        refine wpAny_execs_cons (App_stmt (nL hn' m1 ⟨R, ov, rfl, ols, Subscript_ (nG (v := .bytes b64u 274) H B'.stays (by kernel_rfl) (wpAny_BinOp (wpAny_BinOp (nL hn' m4 (wpAny_Constant_int (and_int (wpAny_Constant_int (lshift_int_small (by decide) (by decide) (by walk_at "o") (KBw.item_K b64_ints (by decide) (by rw [hb48]; walk_at "o") (by rw [hb48]; show _ < (64 : Int); walk_at "o") fun t' k' _ _ => ?_)))))))))⟩))
        refine ⟨ov, ols, by rw [oia.length, sizeLine_eq]; omega, fun g₁ hl₁ hs₁ => ?_⟩
        have hg₁ := hn'.sameBut hs₁ (Ne.symm hRL)
        refine wpXS ?_
        intro env₀ A₀ E₀ Q₀ s₀
        refine wpAny_execs_cons (App_stmt (nL hg₁ m1 ⟨R, _, rfl, hl₁, wpAny_Constant_int ⟨_, hl₁, by rw [List.length_append, oia.length, sizeLine_eq]; simp; omega, fun g₂ hl₂ hs₂ => ?_⟩⟩))
        have hg₂ := hg₁.sameBut hs₂ (Ne.symm hRL)
        have st₂ := hbs (hbs B'.stays hs₁) hs₂
        have r₂ : Ret (L :: [R]) (L :: fr outer) h' g₂ := (Ret.of_but hs₁.extBut (by simp)).trans (.of_but hs₂.extBut (by simp))
        have henc' : enc (KBw.bInts b) = out ++ [b64at (Builtin.bitAnd lc 15 * 2 ^ 2)] ++ [61] := by rw [henc]; unfold encTail; rw [if_neg h2, if_pos h4]; simp
        refine wpAny_execs_nil (wpAny_execs_nil (wpAny_execs_cons (wpAny_If (isTrue_plain (nL hg₂ m2 (wpAny_truthy_bool ?_))))))
        rw [if_neg (by decide)]
        refine wpXS ?_
        intro env₀ A₀ E₀ Q₀ s₀
        refine wpAny_execs_nil (wpAny_execs_cons (wpAny_Return_some (Call_of rfl (nB (v := .type "bytes") H st₂ (by kernel_rfl) (by kernel_rfl) (sp1 (nL hg₂ m1 (sp0 ⟨keeps_type, ?_⟩)))))))
        have rng : ∀ x ∈ enc (KBw.bInts b), 0 ≤ x ∧ x < 256 := by
          intro x hx; rw [henc'] at hx
          rcases List.mem_append.mp hx with hx | hx
          · rcases List.mem_append.mp hx with hx | hx
            · exact hin x hx
            · rw [List.mem_singleton.mp hx]; exact b64at_in
          · rw [List.mem_singleton.mp hx]; exact l61
        refine call_bytes_ints (ns := enc (KBw.bInts b)) hl₂.il (by rw [henc']; exact (oia.append (.cons _ t' .nil)).append (.cons (61 : Int) _ .nil)) rng (by simp only [List.length_append, oia.length, sizeLine_eq, List.length_singleton]; walk_at "o") hh fun h₃ t₃ k₃ kk₃ => ?_
        exact h h₃ k₃ t₃ ((keep r₂).trans (.of_stays kk₃)) rng
      · rw [if_neg (by simpa using h4)]
        have henc' : enc (KBw.bInts b) = out := by rw [henc]; unfold encTail; rw [if_neg h2, if_neg h4]; simp
        refine wpAny_execs_nil (wpAny_execs_nil (wpAny_execs_cons (wpAny_If (isTrue_plain (nL hn' m2 (wpAny_truthy_bool ?_))))))
        rw [if_neg (by decide)]
        refine wpXS ?_
        intro env₀ A₀ E₀ Q₀ s₀
        refine wpAny_execs_nil (wpAny_execs_cons (wpAny_Return_some (Call_of rfl (nB (v := .type "bytes") H B'.stays (by kernel_rfl) (by kernel_rfl) (sp1 (nL hn' m1 (sp0 ⟨keeps_type, ?_⟩)))))))
        have rng : ∀ x ∈ enc (KBw.bInts b), 0 ≤ x ∧ x < 256 := by
          intro x hx; rw [henc'] at hx; exact hin x hx
        refine call_bytes_ints (ns := enc (KBw.bInts b)) ols.il (henc' ▸ oia) rng (by rw [oia.length, sizeLine_eq]; walk_at "o") hh fun h₃ t₃ k₃ kk₃ => ?_
        exact h h₃ k₃ t₃ ((keep .refl).trans (.of_stays kk₃)) rng
end
end Mine
end

section
open PySem PySem.W PyProof.Rows
set_option maxRecDepth 100000
set_option maxHeartbeats 4000000
namespace Mine
open PySem PySem.Spec PySem.Calls PyProof.Rows PySem.W

section
variable {w : World} {mg mb : Str → Option Value} {hb : Heap} {prog : Program} {A : Around} {outer : List Env} {s : Shared} {E : Value → Shared → Prop}

theorem b64_fn {b : Array UInt8} {t : Tok} {Q : Value → Shared → Prop} (H : Bs w mg mb hb) (B : Below A hb outer s.heap) (hd : A.depth + 4 < recursionLimit) (hh : A.handled = none) (hz : b.size ≤ 100)
    (h : ∀ h' tk t', Ret [] (fr outer) s.heap h' → (∀ x ∈ enc (KBw.bInts b), 0 ≤ x ∧ x < 256) → Q (.bytes (byteArr (enc (KBw.bInts b))) t') { s with heap := h', toks := tk }) : wpAny (model prog w) A (call (.ref 95) [.bytes b t]) Q E s := by
  have ho : (TopF w.params).lookup 95 = some ⟨_, _, .func (fnX _ _ _ _ _ _ _ _ _ _ _ _ _), _⟩ := rfl
  have hT : (TopF w.params).lookup 88 = some ⟨_, _, .seq _ _, _⟩ := rfl
  have hT' := B.stays _ _ (H.X _ _ hT)
  refine enter (binds := [("s", .bytes b t), ("altchars", .none)]) H B (by walk_at "o") ho (by kernel_rfl) (BindsTo.of_defaults (T := 88) rfl hT' rfl rfl rfl) (locs rfl) (by decide) fun L h₁ hLs hn₁ k B₁ => ?_
  clear ho hT hT'
  have hLn : s.heap.get? L = none := Heap.get?_none_of_le (by rw [hLs]; exact Nat.le_refl _)
  have hbL : hb.get? L = none := (fr_there B₁.frames (.head _)).1
  refine wpXS ?_
  intro env₀ A₀ E₀ Q₀ s₀
  refine wpAny_execs_cons (wpAny_Assign_Name ?_)
  show wpAny _ _ (eval _ _ >>= fun f => callWith _ f [] _ _) _ _ _
  refine wpAny_bind (nG (v := .ref 87) H B₁.stays (by kernel_rfl) (callWith_KW (H.X.keeps B₁.stays) (by kernel_rfl) rfl (sp1 (nL hn₁ (by walk_at "m") (sp0 ?_)))))
  refine kwAll_cons (Constant_bool (PyProof.Rows.evalAll_nil ?_))
  refine ⟨H.X.keeps B₁.stays, ?_⟩
  refine b2a_fn (b := b) (t := t) H B₁ (by show A.depth + 1 + 2 < _; walk_at "o") hh hz fun h₂ tk₂ t₂ r₂ rng => ?_
  refine sL (r₂.ns hn₁ (by simp)) fun h₃ hn₃ hs₃ => ?_
  refine wpXS ?_
  intro env₀ A₀ E₀ Q₀ s₀
  refine wpAny_execs_cons (wpAny_If (wpAny_isTrue_Compare1 (nL hn₃ (by walk_at "m") (Constant_none (wpAny_isNot_self (by decide) (wpAny_truthy_bool ?_))))))
  rw [if_neg (by decide)]
  refine wpXS ?_
  intro env₀ A₀ E₀ Q₀ s₀
  refine wpAny_execs_nil (wpAny_execs_cons (wpAny_Return_some (nL hn₃ (by walk_at "m") (h h₃ _ _ ?_ rng))))
  exact Ret.leave (X := []) hLs k ((r₂.wide (by simp)).trans (.of_but hs₃.extBut (by simp)))
end
end Mine
end

section
open PySem PySem.W PyProof.Rows
set_option maxRecDepth 100000
set_option maxHeartbeats 4000000
namespace Mine
open PySem PySem.Spec PySem.Calls PyProof.Rows PySem.W

namespace T
theorem e1 : Builtin.notOverATurnedClass [.type "object"] = pure () := by kernel_rfl
theorem e2 : Builtin.extendedBase [.type "object"] = pure (.type "object") := by kernel_rfl
theorem e3 : Builtin.mroHook? (.type "type") = pure none := by kernel_rfl
theorem e4 : Builtin.linearize [.type "object"] mroOf = pure [.type "object"] := by kernel_rfl
theorem e5 : Bind.madeBy (.type "object") = pure (some "object.__new__") := by kernel_rfl
theorem e6 : Builtin.Slots.givesWeak (.type "object") = pure false := by kernel_rfl
theorem e7 : Builtin.Slots.bestBase [.type "object"] = pure (.type "object") := by kernel_rfl
theorem e8 : Builtin.Slots.slotNamesOf (.type "object") = pure [] := by kernel_rfl
theorem e9 : Builtin.Slots.givesDict (.type "object") = pure false := by kernel_rfl
theorem e10 : Builtin.Slots.varSize (.type "object") = pure false := by kernel_rfl
theorem e11 : isType (.type "object") = pure true := by kernel_rfl
theorem e12 : typeOf (.type "object") = pure (.type "type") := by kernel_rfl
theorem e13 : isSubtype (.type "type") (.type "type") = pure true := by kernel_rfl
theorem e14 (a : Addr) : Builtin.noteSubclassOfBuiltin "object" a = pure () := by kernel_rfl
theorem e15 : isType (.type "type") = pure true := by kernel_rfl
theorem e16 : typeOf (.type "type") = pure (.type "type") := by kernel_rfl
end T
end Mine
end

section
open PySem PySem.W PyProof.Rows
set_option maxRecDepth 100000
set_option maxHeartbeats 4000000
namespace Mine
open PySem PySem.Spec PySem.Calls PyProof.Rows PySem.W

noncomputable def dropL (name : Str) : List DictEntry → List DictEntry
  | [] => []
  | e :: r => if e.key.isStr name then r else e :: dropL name r
theorem dropL_erase (name : Str) : ∀ es : List DictEntry, (match es.findIdx? (fun x => x.key.isStr name) with | some i => es.eraseIdx i | none => es) = dropL name es
  | [] => rfl
  | e :: r => by
    have ih := dropL_erase name r
    simp only [List.findIdx?_cons, dropL]
    cases h : e.key.isStr name with
    | true => simp
    | false =>
      simp only [Bool.false_eq_true, if_false]
      rw [← ih]
      cases r.findIdx? (fun x => x.key.isStr name) <;> simp
theorem dropName_dict (name : Str) (es : List DictEntry) (n : Nat) : ∃ n', Obj.dropName name (dictOf es n) = dictOf (dropL name es) n' := by
  rw [Obj.dropName_eq]
  unfold Obj.dropNameByArray dictOf
  have h1 := dropL_erase name es
  simp only [List.findIdx?_toArray]
  cases h : List.findIdx? (fun x => x.key.isStr name) es with
  | none => rw [h] at h1; exact ⟨n, by rw [← h1]⟩
  | some i =>
    rw [h] at h1
    refine ⟨n + 1, ?_⟩
    have hi : i < es.length := by
      obtain ⟨hlt, _⟩ := List.findIdx?_eq_some_iff_getElem.mp h
      exact hlt
    rw [← h1]
    simp [Array.eraseIdxIfInBounds, hi]

section
variable {M : Model} {A : Around} {E : Value → Shared → Prop} {s : Shared}

theorem ns_get {a : Addr} {es : List DictEntry} {n : Nat} {name : Str} {r : Option Value} {Q : Option Value → Shared → Prop} (ho : s.heap.get? a = some (dictOf es n)) (e : getL name es = some r) (h : Q r s) : wpAny M A (nsGet a name) Q E s := by
  unfold nsGet
  refine wpAny_bind (wpAny_loadPart ho ?_)
  rw [nsLook_of (o := dictOf es n) (r := r) e]
  exact wpAny_pure h

theorem ns_set {a : Addr} {es : List DictEntry} {n : Nat} {name : Str} {v : Value} {Q : Unit → Shared → Prop} (ho : s.heap.get? a = some (dictOf es n)) (e : (getL name es).isSome = true)
    (h : ∀ h' n' hsh tk, h'.get? a = some (dictOf (putL name hsh (.str name tk) v es) n') → Heap.SameBut a s.heap h' → Q () { s with heap := h', toks := s.toks + 1 }) : wpAny M A (nsSet a name v) Q E s := by
  unfold nsSet
  refine wpAny_bind (wpAny_bind (wpAny_askSetting (wpAny_pure (wpAny_bind (wpAny_mkText (wpAny_bind (wpAny_loadPart ho ?_)))))))
  dsimp only
  have c : (!es.toArray.any (·.key.isStr name) && es.toArray.any (·.refKey)) = false := by
    rw [← Array.any_toList, ← Array.any_toList]
    unfold getL at e
    split at e
    · rename_i en he
      rw [List.any_eq_true.mpr ⟨en, List.mem_of_find?_eq_some he, List.find?_some he⟩]; rfl
    · split at e
      · cases e
      · rename_i z
        rw [show (es.toArray.toList.any fun x => x.refKey) = false by simpa using z]
        simp
  rw [aRefKeyMayBeTheName_at, c]
  refine wpAny_updatePart ho ?_
  refine h _ (putN name es n) (if name.cps.isEmpty = true then 0 else reduceHash (M.w.params.strHash name.cps)) s.toks ?_ (Heap.SameBut.update ..)
  rw [Heap.get?_update_self _ ho (by rw [putName_dict]; rfl), putName_dict]

theorem ns_setV {a : Addr} {es : List DictEntry} {n : Nat} {name : Str} {v : Value} {Q : Unit → Shared → Prop} (ho : s.heap.get? a = some (dictOf es n)) (e : (getL name es).isSome = true) (hz : es.length ≤ 1000)
    (h : ∀ h' n' hsh tk, h'.get? a = some (dictOf (putL name hsh (.str name tk) v es) n') → Heap.SameBut a s.heap h' → Q () { s with heap := h', toks := s.toks + 1 }) : wpAny M A (nsSetByValue a name v) Q E s := by
  unfold nsSetByValue
  refine wpAny_bind (wpAny_loadPart ho ?_)
  dsimp only
  have hq : decide (es.toArray.size > sizeLine) = false := decide_eq_false (by rw [List.size_toArray, sizeLine_eq]; walk_at "o")
  rw [hq, Bool.false_and, if_neg (by decide)]
  exact ns_set ho e h

theorem ns_del {a : Addr} {es : List DictEntry} {n : Nat} {name : Str} {v : Value} {Q : Bool → Shared → Prop} (ho : s.heap.get? a = some (dictOf es n)) (e : getL name es = some (some v))
    (h : ∀ h' n', h'.get? a = some (dictOf (dropL name es) n') → Heap.SameBut a s.heap h' → Q true { s with heap := h' }) : wpAny M A (nsDel a name) Q E s := by
  unfold nsDel
  refine wpAny_bind (wpAny_loadPart ho ?_)
  have hany : es.toArray.any (·.key.isStr name) = true := by
    rw [← Array.any_toList]
    unfold getL at e
    split at e
    · rename_i en he
      have hp : en.key.isStr name = true := List.find?_some (p := fun x : DictEntry => x.key.isStr name) he
      exact List.any_eq_true.mpr ⟨en, List.mem_of_find?_eq_some he, hp⟩
    · split at e <;> cases e
  rw [nsHas_eq]
  unfold nsHasByArray
  dsimp only
  rw [hany, if_pos rfl]
  refine wpAny_bind (wpAny_pure ?_)
  rw [if_pos rfl]
  obtain ⟨n', e'⟩ := dropName_dict name es n
  refine wpAny_bind (wpAny_updatePart ho (wpAny_pure ?_))
  refine h _ n' ?_ (Heap.SameBut.update ..)
  rw [Heap.get?_update_self _ ho (by rw [e']; rfl), e']
end
end Mine
end

section
open PySem PySem.W PyProof.Rows
set_option maxRecDepth 100000
set_option maxHeartbeats 4000000
namespace Mine
open PySem PySem.Spec PySem.Calls PyProof.Rows PySem.W

section
variable {prog : Program} {w : World} {A : Around} {E : Value → Shared → Prop} {s : Shared}

theorem slots_read {sl : Addr} {es : List DictEntry} {hx : Int} {kx : Value} {ts : Tok} {Q : Builtin.Slots.Plan → Shared → Prop} (hl : LS s.heap sl [.str "obj" ts])
    (he : es.find? (·.key.isStr "__slots__") = some ⟨hx, kx, .ref sl⟩) (hn : es.any (·.key.isStr "obj") = false)
    (h : ∀ h', s.heap.StaysIn h' → Q { names := ["obj"], dict := false, weak := false, inherited := [] } { s with heap := h' }) :
    wpAny (model prog w) A (Builtin.Slots.read "K" [.type "object"] es.toArray) Q E s := by
  obtain ⟨n, hsl⟩ := hl
  unfold Builtin.Slots.read
  refine wpAny_bind (wpAny_of_eq T.e7 ?_)
  refine wpAny_bind (wpAny_of_eq T.e8 ?_)
  refine wpAny_bind (wpAny_of_eq T.e9 ?_)
  refine wpAny_bind (wpAny_of_eq T.e6 ?_)
  refine wpAny_bind (wpAny_of_eq T.e10 ?_)
  have hf : es.toArray.find? (·.key.isStr "__slots__") = some ⟨hx, kx, .ref sl⟩ := by rw [List.find?_toArray]; exact he
  dsimp only
  rw [hf]
  dsimp only
  refine wpAny_bind (wpAny_rule ?_)
  refine wpAny_bind ?_
  refine wpAny_bind (wpAny_bind (wpAny_load hsl (wpAny_pure ?_)))
  refine wpAny_pure ?_
  rw [if_neg (by decide)]
  refine wpAny_bind (collect_list (vs := [.str "obj" ts]) ⟨_, hsl, rfl, n, rfl⟩ ?_)
  have hn' : es.toArray.any (·.key.isStr "obj") = false := by rw [← Array.any_toList]; exact hn
  have hid : Builtin.Slots.isIdentifier "obj" = some true := by decide +kernel
  have hm : Builtin.Slots.mangle "K" "obj" = "obj" := by decide +kernel
  have hq := h ((s.heap.push (seqObj "list" #[] 0)).update s.heap.objs.size (Obj.mapSeq (· ++ ([.str "obj" ts] : List Value).toArray))) (fun b o e => (Heap.SameBut.update ..).extBut b o (fun q => Nat.lt_irrefl _ (q ▸ Heap.lt_size e)) (Heap.get?_push_of_some _ e))
  clear h
  generalize ((s.heap.push (seqObj "list" #[] 0)).update s.heap.objs.size (Obj.mapSeq (· ++ ([.str "obj" ts] : List Value).toArray))) = h' at *
  have e10 := T.e10
  have b1 : ((Str.ofString "obj" : Str) == Str.ofString "__dict__") = false := by decide +kernel
  have b2 : ((Str.ofString "obj" : Str) == Str.ofString "__weakref__") = false := by decide +kernel
  have b3 : ((Str.ofString "obj" : Str) == Str.ofString "__del__") = false := by decide +kernel
  have hz : ¬ 0 + (Str.ofString "obj").length > sizeLine := by rw [sizeLine_eq]; decide +kernel
  repeat (any_goals (first | assumption | wp_step))
  rw [hid]
  dsimp only
  repeat (any_goals (first | assumption | wp_step))
end
end Mine
end

section
open PySem PySem.W PyProof.Rows
set_option maxRecDepth 100000
set_option maxHeartbeats 4000000
namespace Mine
open PySem PySem.Spec PySem.Calls PyProof.Rows PySem.W

noncomputable abbrev mdObj (a : Addr) (t : Tok) : Obj := { cls := .type "member_descriptor", data := .fields #[.str "obj" t, .ref a, .builtin "proto.slot", .builtin "proto.slot#set", .int 0 0] }
noncomputable abbrev clsObj (cd : ClassData) (sl : Array (Option Value)) : Obj := { cls := .type "type", data := .cls cd, slots := sl }

section
variable {prog : Program} {w : World} {M : Model} {A : Around} {E : Value → Shared → Prop} {s : Shared}

theorem cls_upd {a : Addr} {cd : ClassData} {sl : Array (Option Value)} {f : ClassData → ClassData} {Q : Unit → Shared → Prop} (ho : s.heap.get? a = some (clsObj cd sl)) (hp : (Data.cls (f cd)).pastItsLine = none)
    (h : ∀ h', h'.get? a = some (clsObj (f cd) sl) → Heap.SameBut a s.heap h' → Q () { s with heap := h' }) : wpAny M A (updateCls a f) Q E s := by
  unfold updateCls
  refine wpAny_bind (wpAny_load ho (wpAny_bind (wpAny_update ho ?_)))
  have e : (s.heap.update a (Obj.mapCls f)).get? a = some (clsObj (f cd) sl) := Heap.get?_update_self _ ho rfl
  exact wpAny_lookBehind e hp (h _ e (Heap.SameBut.update ..))

theorem slot_upd {a : Addr} {cd : ClassData} {sl : Array (Option Value)} {i : Nat} {v : Option Value} {Q : Unit → Shared → Prop} (ho : s.heap.get? a = some (clsObj cd sl)) (hi : i < 1000)
    (h : ∀ h', h'.get? a = some (clsObj cd ((sl ++ Array.replicate (i + 1 - sl.size) none).setIfInBounds i v)) → Heap.SameBut a s.heap h' → Q () { s with heap := h' }) : wpAny M A (setSlotAt a i v) Q E s := by
  unfold setSlotAt
  rw [if_neg (by rw [sizeLine_eq]; walk_at "o")]
  exact wpAny_updatePart ho (h _ (Heap.get?_update_self _ ho rfl) (Heap.SameBut.update ..))

theorem slots_install {a ns : Addr} {es : List DictEntry} {n : Nat} {cd : ClassData} {sl : Array (Option Value)} {Q : Unit → Shared → Prop} (hns : s.heap.get? ns = some (dictOf es n)) (hno : getL "obj" es = some none) (hz : es.length ≤ 1000)
    (ha : s.heap.get? a = some (clsObj cd sl)) (hp : (Data.cls { cd with hasDict := false, slotNames := ["obj"] }).pastItsLine = none)
    (h : ∀ md t hs tk n' h' tk', s.heap.get? md = none → h'.get? md = some (mdObj a t) → h'.get? ns = some (dictOf (putL "obj" hs (.str "obj" tk) (.ref md) es) n') → h'.get? a = some (clsObj { cd with hasDict := false, slotNames := ["obj"] } sl) →
      (∀ b o, b ≠ ns → b ≠ a → s.heap.get? b = some o → h'.get? b = some o) → Q () { s with heap := h', toks := tk' }) :
    wpAny (model prog w) A (Builtin.Slots.install (.ref a) ns [.type "object"] { names := ["obj"], dict := false, weak := false, inherited := [] }) Q E s := by
  have hna : ns ≠ a := by rintro rfl; rw [hns] at ha; injection ha with q; injection q with _ _ q _; cases q
  unfold Builtin.Slots.install
  dsimp only
  rw [List.forIn_cons]
  refine wpAny_bind (wpAny_bind ?_)
  refine wpAny_bind (ns_get hns hno ?_)
  rw [if_pos (show (none : Option Value).isNone = true from rfl)]
  refine wpAny_bind (wpAny_mkStr ?_)
  refine wpAny_bind (wpAny_newObj_type ?_)
  have hmd : (s.heap.push (mdObj a s.toks)).get? s.heap.objs.size = some (mdObj a s.toks) := Heap.get?_push_size _ rfl
  have hmn : s.heap.get? s.heap.objs.size = none := Heap.get?_none_of_le (Nat.le_refl _)
  have k₁ : s.heap.StaysIn (s.heap.push (mdObj a s.toks)) := fun b o e => Heap.get?_push_of_some _ e
  show wpAny _ _ _ _ _ { s with heap := s.heap.push (mdObj a s.toks), toks := _ }
  generalize (s.heap.push (mdObj a s.toks)) = h₁ at *
  generalize s.heap.objs.size = md at *
  have nmd : ∀ {b : Addr} {o : Obj}, s.heap.get? b = some o → b ≠ md := fun e q => by rw [q, hmn] at e; cases e
  refine wpAny_bind (ns_setV (k₁ _ _ hns) (by rw [hno]; rfl) hz fun h₂ n₂ hs tk hns₂ s₂ => wpAny_pure (wpAny_pure ?_))
  refine wpAny_bind ?_
  rw [List.forIn_cons]
  refine wpAny_bind (wpAny_bind (wpAny_of_eq T.e9 ?_))
  rw [if_neg (by decide)]
  refine wpAny_pure (wpAny_pure ?_)
  rw [if_neg (by rw [sizeLine_eq]; decide)]
  have ha₂ : h₂.get? a = some (clsObj cd sl) := s₂.extBut a _ (Ne.symm hna) (k₁ _ _ ha)
  refine cls_upd ha₂ hp fun h₃ ha₃ s₃ => ?_
  have mda : md ≠ a := (nmd ha).symm
  have mdn : md ≠ ns := (nmd hns).symm
  exact h md _ _ _ _ h₃ _ hmn (s₃.extBut md _ mda (s₂.extBut md _ mdn hmd)) (s₃.extBut ns _ hna hns₂) ha₃ fun b o b1 b2 e => s₃.extBut b o b2 (s₂.extBut b o b1 (k₁ b o e))
end

section
variable {prog : Program} {w : World} {M : Model} {A : Around} {E : Value → Shared → Prop} {h : Heap} {g : Array GenState} {d : Drawn} {t : Nat} {os : OsState}

theorem dget {a : Addr} {es : List DictEntry} {n : Nat} {name : Str} {r : Option Value} {Q : Option Value → Shared → Prop} (ho : h.get? a = some (dictOf es n)) (e : getL name es = some r) (k : Q r ⟨h, g, d, t, os⟩) : wpAny M A (nsGet a name) Q E ⟨h, g, d, t, os⟩ := ns_get ho e k
theorem dset {a : Addr} {es : List DictEntry} {n : Nat} {name : Str} {v : Value} {Q : Unit → Shared → Prop} (ho : h.get? a = some (dictOf es n)) (e : (getL name es).isSome = true)
    (k : ∀ h' n' hsh tk, h'.get? a = some (dictOf (putL name hsh (.str name tk) v es) n') → Heap.SameBut a h h' → Q () ⟨h', g, d, t + 1, os⟩) : wpAny M A (nsSet a name v) Q E ⟨h, g, d, t, os⟩ := ns_set ho e k
theorem ddel {a : Addr} {es : List DictEntry} {n : Nat} {name : Str} {v : Value} {Q : Bool → Shared → Prop} (ho : h.get? a = some (dictOf es n)) (e : getL name es = some (some v))
    (k : ∀ h' n', h'.get? a = some (dictOf (dropL name es) n') → Heap.SameBut a h h' → Q true ⟨h', g, d, t, os⟩) : wpAny M A (nsDel a name) Q E ⟨h, g, d, t, os⟩ := ns_del ho e k
theorem supd {a : Addr} {cd : ClassData} {sl : Array (Option Value)} {i : Nat} {v : Option Value} {Q : Unit → Shared → Prop} (sl' : Array (Option Value)) (ho : h.get? a = some (clsObj cd sl)) (hi : i < 1000) (e : (sl ++ Array.replicate (i + 1 - sl.size) none).setIfInBounds i v = sl')
    (k : ∀ h', h'.get? a = some (clsObj cd sl') → Heap.SameBut a h h' → Q () ⟨h', g, d, t, os⟩) : wpAny M A (setSlotAt a i v) Q E ⟨h, g, d, t, os⟩ := slot_upd ho hi fun h' e1 e2 => k h' (e ▸ e1) e2
theorem cupd {a : Addr} {cd : ClassData} {sl : Array (Option Value)} {f : ClassData → ClassData} {Q : Unit → Shared → Prop} (ho : h.get? a = some (clsObj cd sl)) (hp : (Data.cls (f cd)).pastItsLine = none)
    (k : ∀ h', h'.get? a = some (clsObj (f cd) sl) → Heap.SameBut a h h' → Q () ⟨h', g, d, t, os⟩) : wpAny M A (updateCls a f) Q E ⟨h, g, d, t, os⟩ := cls_upd ho hp k
theorem dents {a : Addr} {es : List DictEntry} {n : Nat} {part : Option Value} {Q : Array DictEntry → Shared → Prop} (ho : h.get? a = some (dictOf es n)) (k : Q es.toArray ⟨h, g, d, t, os⟩) : wpAny M A (dictEntries a part) Q E ⟨h, g, d, t, os⟩ := wpAny_dictEntries ho rfl k
theorem nobj {T : String} {x : Data} {dct : Option Addr} {Q : Value → Shared → Prop} (hz : sizeOk x) (k : ∀ a h', h.get? a = none → h'.get? a = some { cls := .type T, dict := dct, data := x } → h.StaysIn h' → Q (.ref a) ⟨h', g, d, t, os⟩)
    (hf : ({ cls := .type T, dict := dct, data := x } : Obj).isFreed = false) : wpAny M A (newObj (.type T) x dct) Q E ⟨h, g, d, t, os⟩ :=
  wpAny_newObj_type (k _ _ (Heap.get?_none_of_le (Nat.le_refl _)) (Heap.get?_push_size _ hf) (fun b o e => Heap.get?_push_of_some _ e)) hz
theorem nalloc {o : Obj} {Q : Addr → Shared → Prop} (hf : o.isFreed = false) (k : ∀ a h', h.get? a = none → h'.get? a = some o → h.StaysIn h' → Q a ⟨h', g, d, t, os⟩) : wpAny M A (alloc o) Q E ⟨h, g, d, t, os⟩ :=
  wpAny_alloc (k _ _ (Heap.get?_none_of_le (Nat.le_refl _)) (Heap.get?_push_size _ hf) (fun b o e => Heap.get?_push_of_some _ e))

theorem looks_K {a ns : Addr} {cd : ClassData} {sl : Array (Option Value)} {es : List DictEntry} {n : Nat} {name : Str} {r ro : Option Value} (ha : h.get? a = some (clsObj cd sl)) (hm : cd.mro = [.ref a, .type "object"]) (hn : cd.ns = ns) (hns : h.get? ns = some (dictOf es n))
    (e : getL name es = some r) (eo : builtinOwn "object" name = ro) : Looks M h (typeLookup (.ref a) name) (r.orElse fun _ => ro) := by
  intro A Q E s k q
  unfold typeLookup mroOf classData
  refine wpAny_bind (wpAny_bind (wpAny_bind (wpAny_load (k _ _ ha) (wpAny_pure (wpAny_pure ?_)))))
  rw [hm, List.forIn_cons]
  refine wpAny_bind (wpAny_bind ?_)
  refine wpAny_bind ?_
  show wpAny M A (classOwn (.ref a) name) _ E s
  unfold classOwn classData
  refine wpAny_bind (wpAny_bind (wpAny_load (k _ _ ha) (wpAny_pure ?_)))
  rw [hn]
  refine ns_get (k _ _ hns) e ?_
  cases r with
  | some v => exact wpAny_pure (wpAny_pure (wpAny_pure q))
  | none =>
    refine wpAny_pure ?_
    dsimp only
    rw [List.forIn_cons]
    refine wpAny_bind (wpAny_bind (wpAny_pure ?_))
    rw [eo]
    cases ro with
    | some v => exact wpAny_pure (wpAny_pure (wpAny_pure q))
    | none =>
      refine wpAny_pure ?_
      dsimp only
      rw [List.forIn_nil]
      exact wpAny_pure (wpAny_pure q)

theorem arr_loop {β : Type} {f : DictEntry → β → Sem (ForInStep β)} {Q : β → Shared → Prop} {s : Shared} {b : β} : ∀ (es : List DictEntry), (∀ e ∈ es, ∀ Q' : ForInStep β → Shared → Prop, Q' (.yield b) s → wpAny M A (f e b) Q' E s) → Q b s → wpAny M A (forIn es.toArray b f) Q E s := by
  intro es
  rw [List.forIn_toArray]
  induction es with
  | nil => intro _ q; rw [List.forIn_nil]; exact wpAny_pure q
  | cons e es ih =>
    intro hs q
    rw [List.forIn_cons]
    exact wpAny_bind (hs e List.mem_cons_self _ (ih (fun e' m => hs e' (List.mem_cons_of_mem _ m)) q))
end
end Mine
end

section
open PySem PySem.W PyProof.Rows
set_option maxRecDepth 100000
set_option maxHeartbeats 4000000
namespace Mine
open PySem PySem.Spec PySem.Calls PyProof.Rows PySem.W

namespace T
theorem sup_mro : mroOf (.type "super") = pure [.type "super", .type "object"] := by rw [mroOf_type]; kernel_rfl
theorem sup_new : typeLookup (.type "super") "__new__" = pure (some (.builtin "super.__new__")) := by rw [typeLookup_type, builtinLookup_eq_fast]; kernel_rfl
theorem sup_init : Slot "super" "__init__" "super.__init__" :=
  Slot.of (T := "super") (name := "__init__") (owner := "super") (n := "__init__") (by rw [typeLookup_type, builtinLookup_eq_fast]; kernel_rfl) (by decide +kernel) (by decide +kernel) (by decide +kernel) (.inl (by decide +kernel)) (by rw [isSubtype_type]; kernel_rfl)
theorem sup_called : TypeCalled "super" "super.__new__" "super.__init__" :=
  ⟨by decide +kernel, by decide +kernel, ⟨_, _, sup_mro⟩, madeBy_type sup_mro sup_new (by decide +kernel), by decide +kernel, by rw [isSubtype_type]; kernel_rfl, sup_init⟩
theorem sup_nc (a b : Addr) : checkBuiltinCall "super.__new__" ⟨[.type "super", .ref a, .ref b], []⟩ = pure () := by rw [PySem.W.Fast.te10254737850608025244]; kernel_rfl
theorem sup_self : isSubtype (.type "super") (.type "super") = pure true := by rw [isSubtype_type]; kernel_rfl
theorem sup_entry_new : entryFor table "super.__new__" = some Builtin.«super.__new__» := entryFor_of_tree (by kernel_rfl)
theorem sup_entry_init : entryFor table "super.__init__" = some Builtin.«super.__init__» := entryFor_of_tree (by kernel_rfl)
theorem sup_args (a b c : Value) : argsOk "super.__init__" ⟨[a, b, c], []⟩ := by unfold argsOk; rw [PySem.W.Fast.signatureY_eq]; kernel_rfl
end T

section
variable {prog : Program} {w : World} {A : Around} {E : Value → Shared → Prop} {h : Heap} {g : Array GenState} {d : Drawn} {t : Nat} {os : OsState}

noncomputable abbrev supObj (a b c : Value) : Obj := { cls := .type "super", data := .fields #[a, b, c] }
theorem sup_new_code {a : Addr} {R : Result → Shared → Prop} (k : ∀ q h', h.get? q = none → h'.get? q = some (supObj .none .none .none) → h.StaysIn h' → R (.ok (.ret (.ref q))) ⟨h', g, d, t, os⟩) :
    codeAny (model prog w) A (.call (.builtin "super.__new__") ⟨[.type "super", .ref a, .ref a], []⟩) R ⟨h, g, d, t, os⟩ := by
  refine codeAny_of_tree ?_
  show wpAny _ A.in1 (do checkBuiltinCall "super.__new__" ⟨[.type "super", .ref a, .ref a], []⟩; again (.builtin "super.__new__" ⟨[.type "super", .ref a, .ref a], []⟩)) _ _ _
  refine wpAny_bind (wpAny_of_eq (T.sup_nc a a) (wpAny_pure ⟨plainId_quiet (by decide +kernel) _, codeAny_builtin T.sup_entry_new ?_⟩))
  rw [Around.under_plainId (by decide +kernel) _]
  unfold Builtin.«super.__new__»
  refine wpAny_ite_split (fun hab => absurd hab (by decide)) (fun _ => ?_)
  (try wp_delta)
  refine wpAny_bind (nobj (T := "super") (by show 3 ≤ sizeLine + 2; rw [sizeLine_eq]; decide) (fun q h' q1 q2 q3 => ?_) rfl)
  exact wpAny_pure (k q h' q1 q2 q3)
theorem sup_init_run {a q : Addr} {cd : ClassData} {sl : Array (Option Value)} {Q : PySem.Fin → Shared → Prop} (ha : h.get? a = some (clsObj cd sl)) (hm : cd.mro = [.ref a, .type "object"]) (hq : h.get? q = some (supObj .none .none .none))
    (k : ∀ h', h'.get? q = some (supObj (.ref a) (.ref a) (.ref a)) → Heap.SameBut q h h' → Q (.done (.ret .none)) ⟨h', g, d, t, os⟩) :
    wpAny (model prog w) A (Builtin.«super.__init__» ⟨[.ref q, .ref a, .ref a], []⟩) Q E ⟨h, g, d, t, os⟩ := by
  have Ls : Looks (model prog w) h (isSubtype (.ref a) (.ref a)) true := by
    intro A Q E s k q
    unfold isSubtype mroOf classData
    refine wpAny_bind (wpAny_bind (wpAny_bind (wpAny_load (k _ _ ha) (wpAny_pure (wpAny_pure ?_)))))
    rw [hm]
    simp only [List.contains_cons, beq_self_eq_true, Bool.true_or]
    exact wpAny_pure q
  unfold Builtin.«super.__init__»
  repeat (any_goals (first | assumption | wp_step))
  refine Ls.here ?_
  refine wpAny_ite_split (fun _ => ?_) (fun hab => absurd rfl hab)
  have hne : (Value.ref a == Value.none) = false := rfl
  repeat (any_goals (first | assumption | wp_step))
  have e1 := Heap.get?_update_self (Obj.mapFields fun x => x.setIfInBounds 0 (Value.ref a)) hq rfl
  have e2 := Heap.get?_update_self (Obj.mapFields fun x => x.setIfInBounds 1 (Value.ref a)) e1 rfl
  have e3 := Heap.get?_update_self (Obj.mapFields fun x => x.setIfInBounds 2 (Value.ref a)) e2 rfl
  refine k _ (e3.trans (congrArg some (by kernel_rfl))) ?_
  exact ((Heap.SameBut.update ..).trans (Heap.SameBut.update ..)).trans (Heap.SameBut.update ..)
theorem sup_make {a : Addr} {cd : ClassData} {sl : Array (Option Value)} {Q : Value → Shared → Prop} (ha : h.get? a = some (clsObj cd sl)) (hm : cd.mro = [.ref a, .type "object"])
    (k : ∀ q h' tk, h.get? q = none → h'.get? q = some (supObj (.ref a) (.ref a) (.ref a)) → h.StaysIn h' → Q (.ref q) ⟨h', g, d, tk, os⟩) :
    wpAny (model prog w) A (call (.type "super") [.ref a, .ref a]) Q E ⟨h, g, d, t, os⟩ := by
  have h1 := T.sup_called.notType
  have h2 := T.sup_called.canCreate
  have hmade := T.sup_called.made
  have hmro := T.sup_mro
  have hsub := T.sup_self
  refine wpAny_call (codeAny_of_tree ?_)
  show wpAny _ _ (callAny (.type "super") _) _ _ _
  refine wpAny_pure ⟨Code.quiet_builtin _ (by decide +kernel), codeAny_builtin F.entry_type_call ?_⟩
  rw [Around.under_plain (weight_type_call_type "super" _ []) rfl]
  repeat (any_goals (first | assumption | wp_step))
  refine sup_new_code fun q h' q1 q2 q3 => ?_
  have hT : (⟨h', g, d, t, os⟩ : Shared).TypeIs (.ref q) "super" := ⟨_, q2, rfl⟩
  refine wpAny_bind (wpAny_isInstance (T := "super") (b := true) hT T.sup_self ?_)
  refine wpAny_ite_split (fun hab => absurd hab (by decide)) (fun _ => ?_)
  refine wpAny_bind (wpAny_holding (wpAny_callSpecial?_slot (name := Str.ofString "__init__") hT T.sup_init (wpAny_call_entry T.sup_init hT T.sup_entry_init ?_ (T.sup_args _ _ _))))
  refine sup_init_run (q3 _ _ ha) hm q2 fun h₂ q4 q5 => ?_
  refine ⟨_, rfl, ?_⟩
  wp_delta
  refine wpAny_ite_split (fun hab => absurd hab (by decide)) (fun _ => ?_)
  exact wpAny_pure (k q h₂ _ q1 q4 fun b o e => q5.extBut b o (fun z => by rw [z, q1] at e; cases e) (q3 b o e))
end
end Mine
end

section
open PySem PySem.W PyProof.Rows
set_option maxRecDepth 100000
set_option maxHeartbeats 4000000
namespace Mine
open PySem PySem.Spec PySem.Calls PyProof.Rows PySem.W

namespace T
theorem sg_slot : Slot "super" "__getattribute__" "super.__getattribute__" :=
  Slot.of (T := "super") (name := "__getattribute__") (owner := "super") (n := "__getattribute__") (by rw [typeLookup_type, builtinLookup_eq_fast]; kernel_rfl) (by decide +kernel) (by decide +kernel) (by decide +kernel) (.inl (by decide +kernel)) (by rw [isSubtype_type]; kernel_rfl)
theorem sg_entry : entryFor table "super.__getattribute__" = some Builtin.«super.__getattribute__» := entryFor_of_tree (by kernel_rfl)
theorem sg_args (a b : Value) : argsOk "super.__getattribute__" ⟨[a, b], []⟩ := by unfold argsOk; rw [PySem.W.Fast.signatureY_eq]; kernel_rfl
theorem own_is : builtinOwn "object" "__init_subclass__" = some (.builtin "object.__init_subclass__") := by decide +kernel
theorem type_is : typeOf (.builtin "object.__init_subclass__") = pure (.type "classmethod_descriptor") := by kernel_rfl
theorem cm_get : typeLookup (.type "classmethod_descriptor") "__get__" = pure (some (.builtin "classmethod_descriptor.__get__")) := by kernel_rfl
theorem cg_slot : Slot "classmethod_descriptor" "__get__" "classmethod_descriptor.__get__" :=
  Slot.of (T := "classmethod_descriptor") (name := "__get__") (owner := "classmethod_descriptor") (n := "__get__") (by rw [typeLookup_type, builtinLookup_eq_fast]; kernel_rfl) (by decide +kernel) (by decide +kernel) (by decide +kernel) (.inl (by decide +kernel)) (by rw [isSubtype_type]; kernel_rfl)
theorem cg_entry : entryFor table "classmethod_descriptor.__get__" = some Builtin.«classmethod_descriptor.__get__» := entryFor_of_tree (by kernel_rfl)
theorem cg_args (a b c : Value) : argsOk "classmethod_descriptor.__get__" ⟨[a, b, c], []⟩ := by unfold argsOk; rw [PySem.W.Fast.signatureY_eq]; kernel_rfl
end T
noncomputable abbrev boundIS (a : Addr) : Obj := { cls := .type "builtin_function_or_method", data := .fields #[.builtin "object.__init_subclass__", .ref a] }

section
variable {prog : Program} {w : World} {A : Around} {E : Value → Shared → Prop} {h : Heap} {g : Array GenState} {d : Drawn} {t : Nat} {os : OsState}

theorem not_opaque {a : Addr} {x y : String} {Q : Unit → Shared → Prop} (hst : h.get? cStatics = some { cls := .none, data := .dict #[] }) (k : Q () ⟨h, g, d, t, os⟩) :
    wpAny (model prog w) A (notOfAnOpaqueClass x y (.ref a)) Q E ⟨h, g, d, t, os⟩ := by
  repeat (any_goals (first | assumption | wp_step))

theorem cg_run {a : Addr} {cd : ClassData} {sl : Array (Option Value)} {Q : PySem.Fin → Shared → Prop} (ha : h.get? a = some (clsObj cd sl)) (hm : cd.mro = [.ref a, .type "object"])
    (k : Q (.done (.ret (.ref h.objs.size))) ⟨h.push (boundIS a), g, d, t, os⟩) :
    wpAny (model prog w) A (Builtin.«classmethod_descriptor.__get__» ⟨[.builtin "object.__init_subclass__", .none, .ref a], []⟩) Q E ⟨h, g, d, t, os⟩ := by
  have Ls : Looks (model prog w) h (isSubtype (.ref a) (.type (".".intercalate ("object.__init_subclass__".cutAt '.').dropLast))) true := by
    rw [show ".".intercalate ("object.__init_subclass__".cutAt '.').dropLast = "object" from by decide +kernel]
    intro A Q E s k q
    unfold isSubtype mroOf classData
    refine wpAny_bind (wpAny_bind (wpAny_bind (wpAny_load (k _ _ ha) (wpAny_pure (wpAny_pure ?_)))))
    rw [hm]
    exact wpAny_pure q
  unfold Builtin.«classmethod_descriptor.__get__»
  repeat (any_goals (first | assumption | wp_step))
  refine Ls.here ?_
  wp_delta
  refine wpAny_ite_split (fun hab => absurd hab (by simp)) (fun _ => ?_)
  exact wpAny_bind (wpAny_newObj_type (wpAny_pure k))

theorem sg_run {a q : Addr} {cd : ClassData} {sl : Array (Option Value)} {tn : Tok} {Q : PySem.Fin → Shared → Prop} (ha : h.get? a = some (clsObj cd sl)) (hm : cd.mro = [.ref a, .type "object"]) (hq : h.get? q = some (supObj (.ref a) (.ref a) (.ref a))) (hst : h.get? cStatics = some { cls := .none, data := .dict #[] })
    (k : ∀ b h', h'.get? b = some (boundIS a) → h.StaysIn h' → Q (.done (.ret (.ref b))) ⟨h', g, d, t, os⟩) :
    wpAny (model prog w) A (Builtin.«super.__getattribute__» ⟨[.ref q, .str "__init_subclass__" tn], []⟩) Q E ⟨h, g, d, t, os⟩ := by
  have ea : List.drop 1 (List.dropWhile (fun x => x != (Value.ref a)) cd.mro) = [.type "object"] := by rw [hm]; simp
  unfold Builtin.«super.__getattribute__»
  have f1 := T.type_is
  have f2 := T.cm_get
  have hb : (Str.ofString "__init_subclass__" == Str.ofString "__class__") = false := by decide +kernel
  iterate 34 (any_goals (first | assumption | wp_step))
  refine wpAny_ite_split (fun hab => absurd hab (by rw [hb]; simp)) (fun _ => ?_)
  refine wpAny_bind (not_opaque hst ?_)
  wp_delta
  refine wpAny_ite_split (fun hab => absurd hab (by simp)) (fun _ => ?_)
  wp_delta
  have Lm : Looks (model prog w) h (mroOf (.ref a)) cd.mro := by
    intro A Q E s k q
    unfold mroOf classData
    exact wpAny_bind (wpAny_bind (wpAny_load (k _ _ ha) (wpAny_pure (wpAny_pure q))))
  refine wpAny_bind (Lm.here ?_)
  wp_delta
  rw [show List.drop 1 (List.dropWhile (fun x => x != #[Value.ref a, Value.ref a, Value.ref a][0]) cd.mro) = [.type "object"] from ea]
  rw [List.forIn_cons]
  refine wpAny_bind (wpAny_bind (wpAny_bind ?_))
  refine wpAny_of_eq (a := some (Value.builtin "object.__init_subclass__")) (congrArg pure T.own_is) ?_
  wp_delta
  refine wpAny_bind (wpAny_of_eq f1 (wpAny_bind (wpAny_of_eq f2 ?_)))
  wp_delta
  rw [show (if (#[Value.ref a, Value.ref a, Value.ref a][1] == #[Value.ref a, Value.ref a, Value.ref a][2]) = true then Value.none else #[Value.ref a, Value.ref a, Value.ref a][1]) = Value.none from by simp]
  refine wpAny_bind (wpAny_holding (wpAny_call_entry T.cg_slot T.type_is T.cg_entry (cg_run ha hm ?_) (T.cg_args _ _ _)))
  refine ⟨_, rfl, wpAny_bind (wpAny_pure (wpAny_pure (wpAny_pure ?_)))⟩
  wp_delta
  exact wpAny_pure (k _ _ (Heap.get?_push_size _ rfl) (fun b o e => Heap.get?_push_of_some _ e))

namespace T
theorem is_slot : Slot "super" "__getattribute__" "super.__getattribute__" := sg_slot
end T

theorem init_sub {a q : Addr} {cd : ClassData} {sl : Array (Option Value)} {Q : Value → Shared → Prop} (ha : h.get? a = some (clsObj cd sl)) (hm : cd.mro = [.ref a, .type "object"]) (hq : h.get? q = some (supObj (.ref a) (.ref a) (.ref a))) (hst : h.get? cStatics = some { cls := .none, data := .dict #[] })
    (k : ∀ b h' tk, h'.get? b = some (boundIS a) → h.StaysIn h' → Q (.ref b) ⟨h', g, d, tk, os⟩) :
    wpAny (model prog w) A (getAttr (.ref q) (Str.ofString "__init_subclass__")) Q E ⟨h, g, d, t, os⟩ := by
  have hT : (⟨h, g, d, t, os⟩ : Shared).TypeIs (.ref q) "super" := ⟨_, hq, rfl⟩
  unfold getAttr
  repeat (any_goals (first | assumption | wp_step))
  refine wpAny_of_eq T.sg_slot.lookup ?_
  wp_delta
  refine wpAny_ite_split (fun hab => absurd hab (by simp [onTheHeap])) (fun _ => ?_)
  unfold getAttrByItsOwn hookBefore
  refine wpAny_bind (wpAny_pure ?_)
  unfold callGetattribute boundAndCalled
  refine wpAny_bind (wpAny_attempt (wpAny_holding ?_))
  refine wpAny_ite_split (fun hab => absurd hab (by decide)) (fun _ => ?_)
  refine wpAny_bind (wpAny_of_eq (T.sg_slot.bind _) ?_)
  refine wpAny_call_entry T.sg_slot (T := "super") ⟨_, hq, rfl⟩ T.sg_entry (sg_run ha hm hq hst fun b h' q1 q2 => ?_) (T.sg_args _ _)
  refine ⟨_, rfl, ?_⟩
  exact wpAny_pure (k _ _ _ q1 q2)

namespace T
theorem ty_mod : isSubtype (.type "type") (.type "module") = pure false := by rw [isSubtype_type]; kernel_rfl
theorem ois_entry : entryFor table "object.__init_subclass__" = some Builtin.«object.__init_subclass__» := entryFor_of_tree (by kernel_rfl)
end T

theorem call_IS {a b : Addr} {cd : ClassData} {sl : Array (Option Value)} {Q : Value → Shared → Prop} (ha : h.get? a = some (clsObj cd sl)) (hm : cd.mro = [.ref a, .type "object"]) (hb : h.get? b = some (boundIS a)) (hfull : (toString cd.qualname.toString ++ toString "." ++ toString (Bind.lastOf "object.__init_subclass__") != "*") = true)
    (k : Q .none ⟨h, g, d, t, os⟩) :
    wpAny (model prog w) A (call (.ref b) []) Q E ⟨h, g, d, t, os⟩ := by
  refine wpAny_call (codeAny_of_tree ?_)
  show wpAny _ _ (callAny (.ref b) _) _ _ _
  unfold callAny
  have hsm := T.ty_mod
  repeat (any_goals (first | assumption | wp_step))
  refine And.intro (plainId_quiet (id := "object.__init_subclass__") (by decide +kernel) _) (codeAny_builtin T.ois_entry ?_)
  unfold Builtin.«object.__init_subclass__»
  repeat (any_goals (first | assumption | wp_step))
end
end Mine
end

section
open PySem PySem.W PyProof.Rows
set_option maxRecDepth 100000
set_option maxHeartbeats 4000000
namespace Mine
open PySem PySem.Spec PySem.Calls PyProof.Rows PySem.W

noncomputable def KE (hs : Nat → Int) (ts : Nat → Tok) (vs : Nat → Value) : List DictEntry :=
  [⟨hs 0, .str "__module__" (ts 0), vs 0⟩, ⟨hs 1, .str "__qualname__" (ts 1), vs 1⟩, ⟨hs 2, .str "__firstlineno__" (ts 2), vs 2⟩, ⟨hs 3, .str "__slots__" (ts 3), vs 3⟩,
   ⟨hs 4, .str "__init__" (ts 4), vs 4⟩, ⟨hs 5, .str "__lt__" (ts 5), vs 5⟩, ⟨hs 6, .str "__gt__" (ts 6), vs 6⟩, ⟨hs 7, .str "__eq__" (ts 7), vs 7⟩, ⟨hs 8, .str "__le__" (ts 8), vs 8⟩, ⟨hs 9, .str "__ge__" (ts 9), vs 9⟩,
   ⟨hs 10, .str "__hash__" (ts 10), vs 10⟩, ⟨hs 11, .str "__static_attributes__" (ts 11), vs 11⟩]

/-- the names of K as they stand at last -/
noncomputable def KF (hs : Nat → Int) (ts : Nat → Tok) (vs : Nat → Value) (ho hd : Int) (to td : Tok) (md : Addr) : List DictEntry :=
  [⟨hs 0, .str "__module__" (ts 0), vs 0⟩, ⟨hs 2, .str "__firstlineno__" (ts 2), vs 2⟩, ⟨hs 3, .str "__slots__" (ts 3), vs 3⟩,
   ⟨hs 4, .str "__init__" (ts 4), vs 4⟩, ⟨hs 5, .str "__lt__" (ts 5), vs 5⟩, ⟨hs 6, .str "__gt__" (ts 6), vs 6⟩, ⟨hs 7, .str "__eq__" (ts 7), vs 7⟩, ⟨hs 8, .str "__le__" (ts 8), vs 8⟩, ⟨hs 9, .str "__ge__" (ts 9), vs 9⟩,
   ⟨hs 10, .str "__hash__" (ts 10), vs 10⟩, ⟨hs 11, .str "__static_attributes__" (ts 11), vs 11⟩, ⟨ho, .str "obj" to, .ref md⟩, ⟨hd, .str "__doc__" td, .none⟩]
theorem KF_of (hs : Nat → Int) (ts : Nat → Tok) (vs : Nat → Value) (ho hd : Int) (to td : Tok) (md : Addr) :
    putL (Str.ofString "__doc__") hd (.str (Str.ofString "__doc__") td) .none (putL (Str.ofString "obj") ho (.str (Str.ofString "obj") to) (.ref md) (dropL (Str.ofString "__qualname__") (KE hs ts vs))) = KF hs ts vs ho hd to td md := by kernel_rfl

namespace T
theorem s1 : isSubtype (.type "tuple") (.type "tuple") = pure true := by kernel_rfl
theorem s2 : isSubtype (.type "dict") (.type "dict") = pure true := by kernel_rfl
theorem noDel : ((Manifest.find? "object").elim false fun ty => ty.attrs.any fun x => x.fst == "__del__") = false := by kernel_rfl
theorem l1 : typeLookup (.type "dict") "__iter__" = pure (some (.builtin "dict.__iter__")) := by kernel_rfl
end T

section
variable {prog : Program} {w : World} {A : Around} {E : Value → Shared → Prop} {s : Shared} {hs : Nat → Int} {ts : Nat → Tok} {vs : Nat → Value}

theorem type_new {nsA bt sl : Addr} {n1 n2 : Nat} {tn tq tsl : Tok} {qual : Str} {Q : PySem.Fin → Shared → Prop}
    (hns : s.heap.get? nsA = some (dictOf (KE hs ts vs) n1)) (hbt : s.heap.get? bt = some { cls := .type "tuple", data := .seq #[.type "object"] n2 })
    (hlaid : ∀ i k, Builtin.laidUnderItsOwnName k (vs i) = false) (hst : s.heap.get? cStatics = some { cls := .none, data := .dict #[] }) (hfull : (toString qual.toString ++ toString "." ++ toString (Bind.lastOf "object.__init_subclass__") != "*") = true)
    (hset : ∀ i, i ≠ 1 → i < 12 → Looks (model prog w) s.heap (specialOf (vs i) "__set_name__") none)
    (hq : vs 1 = .str qual tq) (hv3 : vs 3 = .ref sl) (hsl : LS s.heap sl [.str "obj" tsl]) (hnm : (nsA == sysModules) = false)
    (kq : ∀ a ns md ho hd to td tmd n h' tk', s.heap.get? a = none → s.heap.get? ns = none → s.heap.get? md = none → h'.get? ns = some (dictOf (KF hs ts vs ho hd to td md) n) → h'.get? md = some (mdObj a tmd) →
      h'.get? a = some (clsObj { name := "K", bases := [.type "object"], mro := [.ref a, .type "object"], ns := ns, qualname := qual, hasDict := false, slotNames := ["obj"] } #[some (.ref bt), none, some (.str "K" tn), some (.str qual tq), some (.builtin "object.__new__"), some (.bool false)]) →
      s.heap.StaysIn h' → Q (.done (.ret (.ref a))) { s with heap := h', toks := tk' }) :
    wpAny (model prog w) A (Builtin.«type.__new__» ⟨[.type "type", .str "K" tn, .ref bt, .ref nsA], []⟩) Q E s := by
  obtain ⟨h₀, g, d, tk, os⟩ := s
  dsimp only at hns hbt
  have hT1 : (⟨h₀, g, d, tk, os⟩ : Shared).TypeIs (.ref bt) "tuple" := ⟨_, hbt, rfl⟩
  have hT2 : (⟨h₀, g, d, tk, os⟩ : Shared).TypeIs (.ref nsA) "dict" := ⟨_, hns, rfl⟩
  unfold Builtin.«type.__new__»
  iterate 3 wp_step
  wp_delta
  refine wpAny_bind (wpAny_isInstance (T := "tuple") (b := true) hT1 T.s1 ?_)
  wp_delta
  rw [if_neg (by decide)]
  wp_delta
  refine wpAny_bind (wpAny_isInstance (T := "dict") (b := true) hT2 T.s2 ?_)
  wp_delta
  rw [if_neg (by decide)]
  wp_delta
  refine wpAny_bind (wpAny_seqItems hbt rfl ?_)
  rw [show ((some (#[Value.type "object"] : Array Value)).getD #[]).toList = [.type "object"] from rfl]
  wp_delta
  rw [if_neg (by decide)]
  wp_delta
  rw [List.forIn_cons]
  refine wpAny_bind (wpAny_bind (wpAny_bind (wpAny_of_eq T.e11 ?_)))
  rw [if_neg (by decide)]
  refine wpAny_pure ?_
  wp_delta
  rw [List.forIn_nil]
  refine wpAny_pure ?_
  wp_delta
  rw [List.forIn_cons]
  refine wpAny_bind (wpAny_bind (wpAny_bind (wpAny_of_eq T.e12 (wpAny_bind (wpAny_of_eq T.e13 ?_)))))
  rw [if_pos rfl]
  refine wpAny_pure ?_
  wp_delta
  rw [List.forIn_nil]
  refine wpAny_pure ?_
  wp_delta
  rw [if_neg (by decide)]
  wp_delta
  rw [if_neg (show ¬ ([Value.type "object"].isEmpty = true) by decide)]
  refine wpAny_bind (wpAny_of_eq T.e1 ?_)
  refine wpAny_bind (wpAny_of_eq T.e2 ?_)
  wp_delta
  rw [hnm, if_neg (by decide)]
  wp_delta
  refine wpAny_bind (dents hns ?_)
  refine wpAny_bind (wpAny_specialOf hT2 T.l1 ?_)
  wp_delta
  rw [if_pos (by simp)]
  refine wpAny_bind (wpAny_pure ?_)
  wp_delta
  refine wpAny_bind (wpAny_holding (slots_read hsl (hx := hs 3) (kx := .str "__slots__" (ts 3)) (by rw [← hv3]; rfl) rfl fun h₁ k₁ => ?_))
  show wpAny _ _ _ _ _ ⟨h₁, g, d, tk, os⟩
  refine wpAny_bind (nobj (by show (KE hs ts vs).toArray.size ≤ sizeLine + 1; rw [sizeLine_eq]; simp [KE]) (fun ns h₂ hnsn hns₂ k₂ => ?_) rfl)
  wp_delta
  have hmod : ((KE hs ts vs).toArray.any fun x => x.key.isStr (Str.ofString "__module__")) = true := by kernel_rfl
  refine wpAny_ite_split (fun hab => absurd hab (by show ¬ ((!((KE hs ts vs).toArray.any fun x => x.key.isStr (Str.ofString "__module__"))) = true); rw [hmod]; decide)) (fun _ => ?_)
  wp_delta
  refine wpAny_bind ?_
  refine wpAny_ite_split (fun hab => absurd hab (by decide +kernel)) (fun _ => wpAny_pure ?_)
  wp_delta
  refine wpAny_ite_split (fun hab => absurd hab (by decide +kernel)) (fun _ => ?_)
  wp_delta
  refine wpAny_bind (dget hns₂ (r := some (vs 1)) (by kernel_rfl) ?_)
  refine wpAny_bind (dget hns₂ (r := some (vs 1)) (by kernel_rfl) ?_)
  rw [hq]
  wp_delta
  refine wpAny_bind (m := asStr? _) (wpAny_pure ?_)
  wp_delta
  refine wpAny_bind (wpAny_pure ?_)
  wp_delta
  refine wpAny_bind (dget hns₂ (r := none) (by kernel_rfl) ?_)
  wp_delta
  refine wpAny_bind (nalloc rfl fun a h₃ han ha₃ k₃ => ?_)
  wp_delta
  have nsa : ns ≠ a := by rintro rfl; rw [hns₂] at han; cases han
  have hns₃ := k₃ _ _ hns₂
  rw [if_pos (by decide)]
  refine wpAny_bind (supd #[some (.ref bt)] ha₃ (by decide) (by kernel_rfl) fun h₄ ha₄ s₄ => ?_)
  have hns₄ := s₄.extBut ns _ nsa hns₃
  refine wpAny_bind (supd #[some (.ref bt), none, some (.str "K" tn)] ha₄ (by decide) (by kernel_rfl) fun h₅ ha₅ s₅ => ?_)
  have hns₅ := s₅.extBut ns _ nsa hns₄
  wp_delta
  refine wpAny_bind (supd #[some (.ref bt), none, some (.str "K" tn), some (.str qual tq)] ha₅ (by decide) (by kernel_rfl) fun h₆ ha₆ s₆ => ?_)
  have hns₆ := s₆.extBut ns _ nsa hns₅
  wp_delta
  refine wpAny_bind (ddel hns₆ (v := vs 1) (by kernel_rfl) fun h₇ n₇ hns₇ s₇ => ?_)
  have ha₇ := s₇.extBut a _ (Ne.symm nsa) ha₆
  refine wpAny_bind (dget hns₇ (r := none) (by kernel_rfl) ?_)
  wp_delta
  rw [List.forIn_cons]
  refine wpAny_bind (wpAny_bind (wpAny_bind (dget hns₇ (r := none) (by kernel_rfl) (wpAny_pure ?_))))
  wp_delta
  rw [List.forIn_cons]
  refine wpAny_bind (wpAny_bind (dget hns₇ (r := none) (by kernel_rfl) (wpAny_pure ?_)))
  wp_delta
  rw [List.forIn_nil]
  refine wpAny_pure ?_
  refine wpAny_bind (dget hns₇ (r := none) (by kernel_rfl) ?_)
  wp_delta
  refine wpAny_bind (dget hns₇ (r := none) (by kernel_rfl) ?_)
  wp_delta
  refine wpAny_bind (wpAny_of_eq T.e3 ?_)
  wp_delta
  refine wpAny_bind ?_
  refine wpAny_of_eq T.e4 ?_
  refine wpAny_bind (wpAny_pure ?_)
  wp_delta
  rw [show List.filter (fun x => x != Value.ref a) [Value.ref a, Value.type "object"] = [Value.type "object"] by simp]
  refine wpAny_bind ?_
  rw [List.anyM_cons]
  refine wpAny_bind (wpAny_pure ?_)
  rw [T.noDel]
  refine wpAny_ite_split (fun hab => absurd hab (by decide)) (fun _ => ?_)
  rw [List.anyM_nil]
  refine wpAny_pure ?_
  have hdel : ((KE hs ts vs).toArray.any fun x => x.key.isStr (Str.ofString "__del__")) = false := by kernel_rfl
  rw [show ((fun n => (KE hs ts vs).toArray.any fun x => x.key.isStr n) (Str.ofString "__del__") || false) = false by rw [Bool.or_false]; exact hdel]
  refine wpAny_bind (cupd ha₇ rfl fun h₈ ha₈ s₈ => ?_)
  have hns₈ := s₈.extBut ns _ nsa hns₇
  refine wpAny_bind (wpAny_of_eq T.e5 ?_)
  refine wpAny_bind (supd #[some (.ref bt), none, some (.str "K" tn), some (.str qual tq), some (.builtin "object.__new__")] ha₈ (by decide) (by kernel_rfl) fun h₉ ha₉ s₉ => ?_)
  have hns₉ := s₉.extBut ns _ nsa hns₈
  refine wpAny_bind ?_
  unfold Bind.refreshMaker slotAt
  refine wpAny_bind (wpAny_bind ?_)
  refine wpAny_loadPart ha₉ ?_
  refine wpAny_pure ?_
  have hslot4 : ((#[some (Value.ref bt), none, some (.str "K" tn), some (.str qual tq), some (.builtin "object.__new__")] : Array (Option Value))[4]?).join.isNone = false := rfl
  refine wpAny_ite_split (fun hab => absurd (hslot4.symm.trans hab) (by decide)) (fun _ => ?_)
  have lkn : Looks (model prog w) h₉ (typeLookup (.ref a) "__new__") (some (.builtin "object.__new__")) := looks_K ha₉ rfl rfl hns₉ (name := "__new__") (r := none) (ro := some (.builtin "object.__new__")) (by kernel_rfl) (by decide +kernel)
  refine wpAny_bind (lkn.here ?_)
  wp_delta
  refine wpAny_ite_split (fun hab => absurd hab (by decide +kernel)) (fun _ => wpAny_pure ?_)
  have hlen : (dropL (Str.ofString "__qualname__") (KE hs ts vs)).length ≤ 1000 := by rw [show (dropL (Str.ofString "__qualname__") (KE hs ts vs)).length = 11 by kernel_rfl]; decide
  have hp : (Data.cls { name := "K", bases := [Value.type "object"], mro := [.ref a, .type "object"], ns := ns, qualname := qual, hasDict := false, slotNames := ["obj"] }).pastItsLine = none := rfl
  refine wpAny_bind (slots_install hns₉ (n := _) rfl hlen ha₉ hp fun md tmd hmd tkd n₁₀ h₁₀ tk₁₀ hmdn hmd₁₀ hns₁₀ ha₁₀ k₁₀ => ?_)
  show wpAny _ _ _ _ _ ⟨h₁₀, g, d, tk₁₀, os⟩
  refine wpAny_bind (wpAny_of_eq T.e6 ?_)
  refine wpAny_bind (supd #[some (.ref bt), none, some (.str "K" tn), some (.str qual tq), some (.builtin "object.__new__"), some (.bool false)] ha₁₀ (by decide) (by kernel_rfl) fun h₁₁ ha₁₁ s₁₁ => ?_)
  have hns₁₁ := s₁₁.extBut ns _ nsa hns₁₀
  wp_delta
  refine wpAny_ite_split (fun hab => absurd hab (by decide)) (fun _ => ?_)
  wp_delta
  refine wpAny_ite_split (fun hab => absurd hab (by decide)) (fun _ => ?_)
  wp_delta
  refine wpAny_bind (dget hns₁₁ (r := none) (by kernel_rfl) ?_)
  (try wp_delta)
  refine wpAny_ite_split (fun _ => ?_) (fun hab => absurd rfl hab)
  refine wpAny_bind (dset hns₁₁ (by kernel_rfl) fun h₁₂ n₁₂ hdoc tkdoc hns₁₂ s₁₂ => ?_)
  have ha₁₂ := s₁₂.extBut a _ (Ne.symm nsa) ha₁₁
  wp_delta
  refine wpAny_bind (dget hns₁₂ (r := some (vs 7)) (by kernel_rfl) ?_)
  (try wp_delta)
  refine wpAny_ite_split (fun _ => ?_) (fun hab => absurd rfl hab)
  refine wpAny_bind (dget hns₁₂ (r := some (vs 10)) (by kernel_rfl) ?_)
  refine wpAny_ite_split (fun hab => absurd hab (by simp)) (fun _ => ?_)
  wp_delta
  rw [List.forIn_cons]
  refine wpAny_bind (wpAny_bind ?_)
  wp_delta
  refine wpAny_bind (wpAny_of_eq (T.e14 a) (wpAny_pure ?_))
  wp_delta
  rw [List.forIn_nil]
  refine wpAny_pure ?_
  wp_delta
  rw [KF_of] at hns₁₂
  refine wpAny_bind (wpAny_tryCatch (wpAny_holding ?_))
  (try wp_delta)
  refine wpAny_bind (dents hns₁₂ ?_)
  (try wp_delta)
  refine wpAny_bind (arr_loop _ (fun e he Q' q => ?_) ?_)
  · have : Ex2 fun n t => e.key = .str n t := by
      simp only [KF, List.mem_cons, List.not_mem_nil, or_false] at he
      rcases he with rfl | rfl | rfl | rfl | rfl | rfl | rfl | rfl | rfl | rfl | rfl | rfl | rfl <;> exact ⟨_, _, rfl⟩
    obtain ⟨n, t, e1⟩ := this
    rw [e1]
    exact wpAny_bind (m := asStr? _) (wpAny_pure (wpAny_ite_split (fun hab => absurd hab (by simp)) (fun _ => wpAny_pure q)))
  (try wp_delta)
  refine wpAny_ite_split (fun hab => absurd hab (by decide)) (fun _ => ?_)
  (try wp_delta)
  refine wpAny_bind (dents hns₁₂ ?_)
  have K12 : h₀.StaysIn h₁₂ := by
    intro b o e
    have e1 := k₁ b o e
    have hbn : b ≠ ns := by rintro rfl; rw [hnsn] at e1; cases e1
    have e2 := k₂ b o e1
    have hba : b ≠ a := by rintro rfl; rw [han] at e2; cases e2
    have e6 := s₆.extBut b o hba (s₅.extBut b o hba (s₄.extBut b o hba (k₃ b o e2)))
    have e9 := s₉.extBut b o hba (s₈.extBut b o hba (s₇.extBut b o hbn e6))
    exact s₁₂.extBut b o hbn (s₁₁.extBut b o hba (k₁₀ b o hbn hba e9))
  have hmd₁₂ : h₁₂.get? md = some (mdObj a tmd) := by
    have m1 : md ≠ ns := by rintro rfl; rw [hns₉] at hmdn; cases hmdn
    have m2 : md ≠ a := by rintro rfl; rw [ha₉] at hmdn; cases hmdn
    exact s₁₂.extBut md _ m1 (s₁₁.extBut md _ m2 hmd₁₀)
  have hset₁₂ : ∀ i, i ≠ 1 → i < 12 → Looks (model prog w) h₁₂ (specialOf (vs i) "__set_name__") none :=
    fun i h1 h2 A Q E s k q => hset i h1 h2 A Q E s (fun b o e => k b o (K12 b o e)) q
  refine wpAny_bind (arr_loop _ (fun e he Q' q => ?_) ?_)
  · have hl : Builtin.laidUnderItsOwnName e.key e.val = false ∧ Looks (model prog w) h₁₂ (specialOf e.val "__set_name__") none := by
      simp only [KF, List.mem_cons, List.not_mem_nil, or_false] at he
      rcases he with rfl | rfl | rfl | rfl | rfl | rfl | rfl | rfl | rfl | rfl | rfl | rfl | rfl
      all_goals first | exact ⟨hlaid _ _, hset₁₂ _ (by decide) (by decide)⟩ | skip
      · refine ⟨rfl, ?_⟩
        intro A Q E s k q
        unfold specialOf
        refine wpAny_bind (wpAny_typeOf (T := "member_descriptor") ⟨_, k _ _ hmd₁₂, rfl⟩ ?_)
        exact wpAny_of_eq (a := none) (by rw [typeLookup_type, builtinLookup_eq_fast]; kernel_rfl) q
      · exact ⟨rfl, Looks.of_pure (by kernel_rfl)⟩
    refine wpAny_ite_split (fun hab => absurd hab (by rw [hl.1]; simp)) (fun _ => ?_)
    refine wpAny_bind (hl.2.here ?_)
    exact wpAny_pure q
  (try wp_delta)
  refine wpAny_bind (sup_make ha₁₂ rfl fun q h₁₃ tk₁₃ hqn hq₁₃ k₁₃ => ?_)
  have ha₁₃ := k₁₃ _ _ ha₁₂
  have hst₁₃ : h₁₃.get? cStatics = some { cls := .none, data := .dict #[] } := k₁₃ _ _ (K12 _ _ hst)
  refine wpAny_bind (wpAny_holding (init_sub ha₁₃ rfl hq₁₃ hst₁₃ fun b h₁₄ tk₁₄ hb₁₄ k₁₄ => ?_))
  refine wpAny_bind (call_IS (k₁₄ _ _ ha₁₃) rfl hb₁₄ hfull ?_)
  refine wpAny_pure ?_
  refine wpAny_pure ?_
  have kk := fun b o e => k₁₄ b o (k₁₃ b o e)
  have fa : h₀.get? a = none := by
    cases e : h₀.get? a with
    | none => rfl
    | some o => have := k₂ _ _ (k₁ _ _ e); rw [han] at this; cases this
  have fn : h₀.get? ns = none := by
    cases e : h₀.get? ns with
    | none => rfl
    | some o => have := k₁ _ _ e; rw [hnsn] at this; cases this
  have fm : h₀.get? md = none := by
    cases e : h₀.get? md with
    | none => rfl
    | some o =>
      have e1 := k₁ _ _ e
      have hbn : md ≠ ns := by rintro rfl; rw [hnsn] at e1; cases e1
      have e2 := k₂ _ _ e1
      have hba : md ≠ a := by rintro rfl; rw [han] at e2; cases e2
      have e6 := s₆.extBut md o hba (s₅.extBut md o hba (s₄.extBut md o hba (k₃ md o e2)))
      have e9 := s₉.extBut md o hba (s₈.extBut md o hba (s₇.extBut md o hbn e6))
      rw [hmdn] at e9; cases e9
  exact kq a ns md _ _ _ _ tmd _ h₁₄ _ fa fn fm (kk _ _ hns₁₂) (kk _ _ hmd₁₂) (kk _ _ ha₁₂) (fun b o e => kk b o (K12 b o e))
end
end Mine
end

section
open PySem PySem.W PyProof.Rows
set_option maxRecDepth 100000
set_option maxHeartbeats 4000000
namespace Mine
open PySem PySem.Spec PySem.Calls PyProof.Rows PySem.W

namespace T
theorem ty_mro : mroOf (.type "type") = pure [.type "type", .type "object"] := by rw [mroOf_type]; kernel_rfl
theorem ty_new : typeLookup (.type "type") "__new__" = pure (some (.builtin "type.__new__")) := by rw [typeLookup_type, builtinLookup_eq_fast]; kernel_rfl
theorem ty_init : Slot "type" "__init__" "type.__init__" :=
  Slot.of (T := "type") (name := "__init__") (owner := "type") (n := "__init__") (by rw [typeLookup_type, builtinLookup_eq_fast]; kernel_rfl) (by decide +kernel) (by decide +kernel) (by decide +kernel) (.inl (by decide +kernel)) (by rw [isSubtype_type]; kernel_rfl)
theorem ty_made : Bind.madeBy (.type "type") = pure (some "type.__new__") := madeBy_type ty_mro ty_new (by decide +kernel)
theorem ty_nc (x : Str) (t : Tok) (a b : Addr) : checkBuiltinCall "type.__new__" ⟨[.type "type", .str x t, .ref a, .ref b], []⟩ = pure () := by rw [PySem.W.Fast.te10254737850608025244]; kernel_rfl
theorem ty_self : isSubtype (.type "type") (.type "type") = pure true := by rw [isSubtype_type]; kernel_rfl
theorem ty_entry_new : entryFor table "type.__new__" = some Builtin.«type.__new__» := entryFor_of_tree (by kernel_rfl)
theorem ty_entry_init : entryFor table "type.__init__" = some Builtin.«type.__init__» := entryFor_of_tree (by kernel_rfl)
theorem ty_args (a b c d : Value) : argsOk "type.__init__" ⟨[a, b, c, d], []⟩ := by unfold argsOk; rw [PySem.W.Fast.signatureY_eq]; kernel_rfl
theorem ty_check (x : Str) (t : Tok) (a b : Addr) : checkTypeCall "type" ⟨[.str x t, .ref a, .ref b], []⟩ = pure () := by rw [PySem.W.Fast.te11612656972197000677]; kernel_rfl
end T

section
variable {prog : Program} {w : World} {A : Around} {E : Value → Shared → Prop} {s : Shared} {hs : Nat → Int} {ts : Nat → Tok} {vs : Nat → Value}

theorem type_make {nsA bt sl : Addr} {n1 n2 : Nat} {tn tq tsl : Tok} {qual : Str} {Q : Value → Shared → Prop}
    (hns : s.heap.get? nsA = some (dictOf (KE hs ts vs) n1)) (hbt : s.heap.get? bt = some { cls := .type "tuple", data := .seq #[.type "object"] n2 })
    (hlaid : ∀ i k, Builtin.laidUnderItsOwnName k (vs i) = false) (hst : s.heap.get? cStatics = some { cls := .none, data := .dict #[] }) (hfull : (toString qual.toString ++ toString "." ++ toString (Bind.lastOf "object.__init_subclass__") != "*") = true)
    (hset : ∀ i, i ≠ 1 → i < 12 → Looks (model prog w) s.heap (specialOf (vs i) "__set_name__") none)
    (hq : vs 1 = .str qual tq) (hv3 : vs 3 = .ref sl) (hsl : LS s.heap sl [.str "obj" tsl]) (hnm : (nsA == sysModules) = false)
    (kq : ∀ a ns md ho hd to td tmd n h' tk', s.heap.get? a = none → s.heap.get? ns = none → s.heap.get? md = none → h'.get? ns = some (dictOf (KF hs ts vs ho hd to td md) n) → h'.get? md = some (mdObj a tmd) →
      h'.get? a = some (clsObj { name := "K", bases := [.type "object"], mro := [.ref a, .type "object"], ns := ns, qualname := qual, hasDict := false, slotNames := ["obj"] } #[some (.ref bt), none, some (.str "K" tn), some (.str qual tq), some (.builtin "object.__new__"), some (.bool false)]) →
      s.heap.StaysIn h' → Q (.ref a) { s with heap := h', toks := tk' }) :
    wpAny (model prog w) A (call (.type "type") [.str "K" tn, .ref bt, .ref nsA]) Q E s := by
  obtain ⟨h, g, d, t, os⟩ := s
  dsimp only at hns hbt hst hset hsl kq
  have hmade := T.ty_made
  have hmro := T.ty_mro
  have hsub := T.ty_self
  have hck := T.ty_check "K" tn bt nsA
  refine wpAny_call (codeAny_of_tree ?_)
  show wpAny _ _ (callAny (.type "type") _) _ _ _
  refine wpAny_pure ⟨Code.quiet_builtin _ (by decide +kernel), codeAny_builtin F.entry_type_call ?_⟩
  rw [Around.under_plain (weight_type_call_type "type" _ []) rfl]
  repeat (any_goals (first | assumption | wp_step))
  refine codeAny_of_tree ?_
  show wpAny _ A.in1.in1 (do checkBuiltinCall "type.__new__" ⟨[.type "type", .str "K" tn, .ref bt, .ref nsA], []⟩; again (.builtin "type.__new__" ⟨[.type "type", .str "K" tn, .ref bt, .ref nsA], []⟩)) _ _ _
  refine wpAny_bind (wpAny_of_eq (T.ty_nc "K" tn bt nsA) (wpAny_pure ⟨plainId_quiet (by decide +kernel) _, codeAny_builtin T.ty_entry_new ?_⟩))
  rw [Around.under_plainId (by decide +kernel) _]
  refine type_new hns hbt hlaid hst hfull hset hq hv3 hsl hnm fun a ns md ho hd to td tmd n h' tk' f1 f2 f3 hn' hm' ha' K' => ?_
  have hT : (⟨h', g, d, tk', os⟩ : Shared).TypeIs (.ref a) "type" := ⟨_, ha', rfl⟩
  show wpAny _ _ _ _ _ ⟨h', g, d, tk', os⟩
  refine wpAny_bind (wpAny_isInstance (T := "type") (b := true) hT T.ty_self ?_)
  refine wpAny_ite_split (fun hab => absurd hab (by decide)) (fun _ => ?_)
  refine wpAny_bind (wpAny_holding (wpAny_callSpecial?_slot (name := Str.ofString "__init__") hT T.ty_init (wpAny_call_entry T.ty_init hT T.ty_entry_init ?_ (T.ty_args _ _ _ _))))
  unfold Builtin.«type.__init__»
  refine wpAny_ite_split (fun hab => absurd hab (by simp)) (fun _ => ?_)
  wp_delta
  refine wpAny_ite_split (fun hab => absurd hab (by simp)) (fun _ => ?_)
  refine wpAny_pure ?_
  refine ⟨_, rfl, ?_⟩
  wp_delta
  refine wpAny_ite_split (fun hab => absurd hab (by decide)) (fun _ => ?_)
  exact wpAny_pure (kq a ns md ho hd to td tmd n h' _ f1 f2 f3 hn' hm' ha' K')
end
end Mine
end

section
open PySem PySem.W PyProof.Rows
set_option maxRecDepth 100000
set_option maxHeartbeats 4000000
namespace Mine
open PySem PySem.Spec PySem.Calls PyProof.Rows PySem.W

namespace T
theorem tga_slot : Slot "type" "__getattribute__" "type.__getattribute__" :=
  Slot.of (T := "type") (name := "__getattribute__") (owner := "type") (n := "__getattribute__") (by rw [typeLookup_type, builtinLookup_eq_fast]; kernel_rfl) (by decide +kernel) (by decide +kernel) (by decide +kernel) (.inl (by decide +kernel)) (by rw [isSubtype_type]; kernel_rfl)
theorem tga_args (a b : Value) : argsOk "type.__getattribute__" ⟨[a, b], []⟩ := by unfold argsOk; rw [PySem.W.Fast.signatureY_eq]; kernel_rfl
theorem prep_look : typeLookup (.type "type") "__prepare__" = pure (some (.builtin "type.__prepare__")) := by rw [typeLookup_type, builtinLookup_eq_fast]; kernel_rfl
theorem prep_type : typeOf (.builtin "type.__prepare__") = pure (.type "classmethod_descriptor") := by kernel_rfl
theorem cm_set : typeLookup (.type "classmethod_descriptor") "__set__" = pure none := by rw [typeLookup_type, builtinLookup_eq_fast]; kernel_rfl
theorem cm_del : typeLookup (.type "classmethod_descriptor") "__delete__" = pure none := by rw [typeLookup_type, builtinLookup_eq_fast]; kernel_rfl
theorem ty_type : typeOf (.type "type") = pure (.type "type") := by kernel_rfl
theorem prep_sub : isSubtype (.type "type") (.type (".".intercalate ("type.__prepare__".cutAt '.').dropLast)) = pure true := by
  rw [show ".".intercalate ("type.__prepare__".cutAt '.').dropLast = "type" from by decide +kernel, isSubtype_type]; kernel_rfl
theorem prep_entry : entryFor table "type.__prepare__" = some Builtin.«type.__prepare__» := entryFor_of_tree (by kernel_rfl)
theorem ty_mod2 : isSubtype (Value.type ((Manifest.find? "type").elim "type" fun x => x.metatype)) (.type "module") = pure false := by kernel_rfl
end T
noncomputable abbrev boundPr : Obj := { cls := .type "builtin_function_or_method", data := .fields #[.builtin "type.__prepare__", .type "type"] }

section
variable {prog : Program} {w : World} {A : Around} {E : Value → Shared → Prop} {h : Heap} {g : Array GenState} {d : Drawn} {t : Nat} {os : OsState}

theorem cgp_run {Q : PySem.Fin → Shared → Prop} (k : Q (.done (.ret (.ref h.objs.size))) ⟨h.push boundPr, g, d, t, os⟩) :
    wpAny (model prog w) A (Builtin.«classmethod_descriptor.__get__» ⟨[.builtin "type.__prepare__", .none, .type "type"], []⟩) Q E ⟨h, g, d, t, os⟩ := by
  have f1 := T.prep_sub
  have f2 := T.ty_type
  unfold Builtin.«classmethod_descriptor.__get__»
  repeat (any_goals (first | assumption | wp_step))

theorem tga_run {tn : Tok} {Q : PySem.Fin → Shared → Prop} (k : Q (.done (.ret (.ref h.objs.size))) ⟨h.push boundPr, g, d, t, os⟩) :
    wpAny (model prog w) A (Builtin.«type.__getattribute__» ⟨[.type "type", .str "__prepare__" tn], []⟩) Q E ⟨h, g, d, t, os⟩ := by
  have f1 := T.prep_look
  have f2 := T.prep_type
  have f3 := T.cm_get
  have f4 := T.cm_set
  have f5 := T.cm_del
  have f6 := T.ty_type
  unfold Builtin.«type.__getattribute__»
  repeat (any_goals (first | assumption | wp_step))
  refine codeAny_call_builtin T.cg_slot.plain T.cg_entry (T.cg_slot.check _ _ _ _ _ _ _ _ T.prep_type (T.cg_args _ _ _) ?_)
  refine cgp_run ?_
  repeat (any_goals (first | assumption | wp_step))

theorem prep {Q : Option Value → Shared → Prop} (k : ∀ p h' tk, h'.get? p = some boundPr → h.StaysIn h' → Q (some (.ref p)) ⟨h', g, d, tk, os⟩) :
    wpAny (model prog w) A (getAttr? (.type "type") (Str.ofString "__prepare__")) Q E ⟨h, g, d, t, os⟩ := by
  unfold getAttr?
  repeat (any_goals (first | assumption | wp_step))
  refine wpAny_of_eq T.tga_slot.lookup ?_
  wp_delta
  refine wpAny_ite_split (fun hab => absurd hab (by simp [onTheHeap])) (fun _ => ?_)
  unfold getAttrByItsOwn hookBefore
  refine wpAny_bind (wpAny_pure ?_)
  unfold callGetattribute boundAndCalled
  refine wpAny_bind (wpAny_attempt (wpAny_holding ?_))
  refine wpAny_ite_split (fun hab => absurd hab (by decide)) (fun _ => ?_)
  refine wpAny_bind (wpAny_of_eq (T.tga_slot.bind _) ?_)
  refine wpAny_call_entry T.tga_slot (T := "type") T.ty_type KF.entry_tga (tga_run ?_) (T.tga_args _ _)
  refine ⟨_, rfl, ?_⟩
  repeat (any_goals (first | assumption | wp_step))
  exact k _ _ _ (Heap.get?_push_size _ rfl) fun b o e => Heap.get?_push_of_some _ e

theorem prep_call {p : Addr} {nv bv : Value} {Q : Value → Shared → Prop} (hp : h.get? p = some boundPr) (k : ∀ D h' tk, h.objs.size ≤ D → h'.get? D = some emptyDict → h.StaysIn h' → Q (.ref D) ⟨h', g, d, tk, os⟩) :
    wpAny (model prog w) A (call (.ref p) [nv, bv] []) Q E ⟨h, g, d, t, os⟩ := by
  refine wpAny_call (codeAny_of_tree ?_)
  show wpAny _ _ (callAny (.ref p) _) _ _ _
  unfold callAny
  have hsm := T.ty_mod2
  repeat (any_goals (first | assumption | wp_step))
  refine And.intro (plainId_quiet (id := "type.__prepare__") (by decide +kernel) _) (codeAny_builtin T.prep_entry ?_)
  unfold Builtin.«type.__prepare__» newDict
  exact wpAny_bind (wpAny_newObj_type (wpAny_pure (k _ _ _ (Nat.le_refl _) (Heap.get?_push_size _ rfl) (fun b o e => Heap.get?_push_of_some _ e))))
end
end Mine
end

section
open PySem PySem.W PyProof.Rows
set_option maxRecDepth 100000
set_option maxHeartbeats 4000000
namespace Mine
open PySem PySem.Spec PySem.Calls PyProof.Rows PySem.W

theorem codeHd_at {h h' : Heap} {c P : Addr} (x : CodeHd h c P) (k : ∀ o, h.get? c = some o → h'.get? c = some o) : CodeHd h' c P :=
  let ⟨o, vs, file, tf, flags, tg, inF, text, tt, e, r⟩ := x; ⟨o, vs, file, tf, flags, tg, inF, text, tt, k _ e, r⟩
theorem stat_in (p : Params) : (TopF p).lookup cStatics = some { cls := .none, data := .dict #[] } := rfl

section
variable {M : Model} {A : Around} {s : Shared} {E : Value → Shared → Prop} {env : Env}
theorem evalArgs_f {f : Value} {trees : List (Bool × Sem Value)} {Q : Args → Shared → Prop}
    (h : wpAny M A (spliced trees) (fun vs s' => Q ⟨vs, []⟩ s') E s) : wpAny M A (evalArgs f false trees []) Q E s := by
  unfold evalArgs
  show wpAny M A (spliced trees >>= _) Q E s
  refine wpAny_bind (wpAny_mono h (fun vs s' h' => ?_) fun _ _ x => x)
  exact wpAny_bind (wpAny_pure (wpAny_holding (wpAny_bind (wpAny_pure (wpAny_bind (wpAny_pure (wpAny_pure h')))))))
end

section
variable {w : World} {mg mb : Str → Option Value} {hb : Heap} {prog : Program} {A : Around} {s : Shared} {E : Value → Shared → Prop} {env : Env}
theorem ClassDef1 {name bind : Str} {base : Expr} {body : List Stmt} {scope : Scope} {statics : List Str} {pos : Pos} {Q : Flow → Shared → Prop} (H : Bs w mg mb hb) (hk : hb.StaysIn s.heap) (hbb : env.builtins = builtinsNs)
    (h : wpAny (model prog w) A (eval base env) (fun b s₁ => wpAny (model prog w) A (buildClass name (qualnameIn env name bind) [b] [] body scope statics pos.line env pos none) (fun c s₂ => wpAny (model prog w) A (storeName env bind c) (fun _ s₃ => Q .next s₃) E s₂) E s₁) E s)
    (he : starEach [base] env = (false, eval base env) :: starEach [] env := by rfl) :
    wpAny (model prog w) A (exec (.ClassDef name [base] [] body [] [] scope none bind statics pos) env) Q E s := by
  rw [arm_exec_ClassDef]
  refine wpAny_bind (wpAny_pure ?_)
  refine wpAny_bind (wpAny_standAt ?_)
  unfold buildClassGuard
  refine wpAny_bind (wpAny_bind (wpAny_nsGet (hbb ▸ H.b.keeps hk) ?_))
  rw [H.blt _ (by decide +kernel), show bootBuiltins "__build_class__" = some (.builtin "__build_class__") by kernel_rfl]
  refine wpAny_pure ?_
  refine wpAny_bind (wpAny_holding ?_)
  refine wpAny_bind (evalArgs_f ?_)
  refine sp1 (wpAny_mono h (fun b s₁ h₁ => sp0 ?_) fun _ _ x => x) he
  refine wpAny_bind (wpAny_standAt (wpAny_holding ?_))
  refine wpAny_mono h₁ (fun c s₂ h₂ => ?_) fun _ _ x => x
  refine wpAny_bind (wpAny_pure ?_)
  refine wpAny_bind (wpAny_standAt (wpAny_bind (wpAny_bindName (wpAny_mono h₂ (fun _ _ h₃ => wpAny_pure h₃) fun _ _ x => x))))
end

section
variable {prog : Program} {w : World} {A : Around} {E : Value → Shared → Prop} {s : Shared}
theorem class_code {env : Env} {c P : Addr} {ps : Array Value} {pos : Pos} {firstLine : Nat} {name qualname : Str} {scope : Scope} {M : Model}
    {Q : Value → Shared → Prop} (hc : env.code = .ref c) (C : CodeHd s.heap c P) (hP : s.heap.get? P = some (tabObj ps)) (ht : TriplesOk ps.toList) (hnf : codeAmong pos ps.toList = none)
    (hQ : ∀ c' P' h' tk, Heap.ExtBut P s.heap h' → CodeHd h' c' P' → h'.get? P' = some (tabObj #[]) → s.heap.get? c' = none → s.heap.get? P' = none → (∃ ps', h'.get? P = some (tabObj ps')) →
      Q (.ref c') { s with heap := h', toks := tk }) :
    wpAny M A (classCode env pos firstLine name qualname scope) Q E s := by
  have hok := C.code hP ht
  have htab := C.tab hP
  obtain ⟨o, vs, file, tf, flags, tg, inF, text, tt, op, ho, hd, h11, h2, h7, h9, h10, hop, hpd, htr, hne⟩ := id hok
  unfold classCode codeAt
  rw [hc, if_neg (show ¬ ((Value.ref c == Value.none) = true) from Bool.false_ne_true)]
  refine wpAny_bind (wpAny_fieldsOf ho hd ?_)
  rw [h11]
  refine wpAny_bind (wpAny_fieldsOf hop hpd ?_)
  rw [hnf, h2, h7, h9, h10]
  refine wpAny_bind (wpAny_newCodeX fun c' P' h' tk hk hc' hP' hcode' htab' hrec' => ?_)
  have hop' := hk _ _ hop
  refine wpAny_bind (wpAny_updateFieldsOfTheText hop' hpd ?_)
  have hnew : (Obj.mapFields (fun vs => if (codeAmong pos vs.toList).isSome = true then vs else vs ++ #[rawInt pos.line, rawInt pos.col, .ref c']) op).data =
      .fields (ps ++ #[rawInt pos.line, rawInt pos.col, .ref c']) := by
    rw [Obj.data_mapFields hpd, hnf]; rfl
  have hget := Heap.get?_update_self (h := h') (fun o => Obj.mapFields (fun vs => if (codeAmong pos vs.toList).isSome = true then vs else
    vs ++ #[rawInt pos.line, rawInt pos.col, .ref c']) o) hop' (Obj.isFreed_of_fields hnew)
  refine wpAny_bind (wpAny_fieldsOf hget hnew ?_)
  have hl : (ps ++ #[rawInt pos.line, rawInt pos.col, Value.ref c']).toList = ps.toList ++ [rawInt pos.line, rawInt pos.col, .ref c'] := by simp
  rw [hl, codeAmong_snoc _ htr hnf]
  have hcP : c' ≠ P := Nat.ne_of_gt (Nat.lt_of_lt_of_le (Heap.lt_size hop) hc')
  have hP'P : P' ≠ P := Nat.ne_of_gt (Nat.lt_of_lt_of_le (Heap.lt_size hop) hP')
  refine wpAny_pure (hQ c' P' _ _ (fun b o' hb e => ((Heap.SameBut.update ..).extBut b o' hb (hk b o' e))) ?_ ?_ (Heap.get?_none_of_le hc') (Heap.get?_none_of_le hP') ?_)
  · obtain ⟨⟨oc, vc, hoc, hcc, hdc, h11c⟩, htP⟩ := htab'
    exact codeHd_at (CodeHd.of hcode' ⟨⟨oc, vc, hoc, hcc, hdc, h11c⟩, htP⟩) (fun o e => (Heap.SameBut.update ..).extBut _ _ hcP e)
  · exact (Heap.SameBut.update ..).extBut _ _ hP'P htab'.2
  · obtain ⟨_, htP⟩ := htab
    have e1 : op = { cls := .none, data := .fields ps } := Option.some.inj (hop.symm.trans htP)
    refine ⟨ps ++ #[rawInt pos.line, rawInt pos.col, .ref c'], ?_⟩
    rw [hget, e1]
    simp only [Obj.mapFields, hnf]
    rfl

/-- where the module of the builtins lies -/
noncomputable def Bm (mg : Str → Option Value) (hb : Heap) : Prop := Ex2 fun bm ob => mg "__builtins__" = some (.ref bm) ∧ bm ≠ builtinsNs ∧ hb.get? bm = some ob ∧ ob.cls = .type "module" ∧ ob.dict = some builtinsNs ∧ ob.data = .plain
theorem Bm.at {mg : Str → Option Value} {hb h : Heap} {P : Addr} {ps : Array Value} (x : Bm mg hb) (hg : hb.Ns mainGlobals mg) (k : hb.StaysIn h) (hP : h.get? P = some (tabObj ps)) : h.BuiltinsAt mg P ∧ mainGlobals ≠ P := by
  obtain ⟨bm, ob, b1, b2, b3, b4, b5, b6⟩ := x
  have hgs := hg.keeps k
  refine ⟨⟨bm, ob, b1, b2, ?_, ?_, k _ _ b3, b4, b5, b6⟩, ?_⟩
  · intro q
    obtain ⟨o, es, ep, e, hd, _⟩ := hg
    rw [q, e] at b3; cases b3; rw [hd] at b6; cases b6
  · intro q
    have e := k _ _ b3
    rw [q, hP] at e; cases e; cases b4
  · intro q
    obtain ⟨o, es, ep, e, hd, _⟩ := hgs
    rw [q, hP] at e; cases e; cases hd

section
variable {M : Model} {A : Around} {E : Value → Shared → Prop} {h : Heap} {g : Array GenState} {d : Drawn} {t : Nat} {os : OsState}
theorem loc_set {env : Env} {es : List DictEntry} {n : Nat} {name : Str} {v : Value} {Q : Unit → Shared → Prop} (ho : h.get? env.locals = some (dictOf es n)) (e : (getL name es).isSome = true)
    (k : ∀ h' n' hsh tk, h'.get? env.locals = some (dictOf (putL name hsh (.str name tk) v es) n') → Heap.SameBut env.locals h h' → Q () ⟨h', g, d, t + 1, os⟩) : wpAny M A (localSet env name v) Q E ⟨h, g, d, t, os⟩ := by
  unfold localSet
  refine wpAny_bind (wpAny_load ho ?_)
  rw [if_pos (by rfl)]
  exact dset ho e k
theorem loc_get {env : Env} {es : List DictEntry} {n : Nat} {name : Str} {r : Option Value} {Q : Option Value → Shared → Prop} (ho : h.get? env.locals = some (dictOf es n)) (e : getL name es = some r) (k : Q r ⟨h, g, d, t, os⟩) : wpAny M A (localGet env name) Q E ⟨h, g, d, t, os⟩ := by
  unfold localGet
  refine wpAny_bind (wpAny_load ho ?_)
  rw [if_pos (by rfl)]
  exact dget ho e k

theorem def_in {hb : Heap} {mg : Str → Option Value} {cenv : Env} {name : Str} {params : Arguments} {body : List Stmt} {scope : Scope} {pos : Pos} {clos : List (Str × Addr)} {c P nsA : Addr} {ps : Array Value} {es : List DictEntry} {n : Nat} {Q : Flow → Shared → Prop}
    (hg : hb.Ns mainGlobals mg) (hbm : Bm mg hb) (kb : hb.StaysIn h)
    (hd0 : params.defaults = []) (hk0 : params.kw_defaults = []) (ha : annTrees params none cenv = []) (hst : ∀ v, storeName cenv name v = localSet cenv name v) (hl : cenv.locals = nsA) (hge : cenv.globals = mainGlobals) (hcd : cenv.code = .ref c)
    (hcl : closureFor scope cenv = pure clos) (C : CodeHd h c P) (hP : h.get? P = some (tabObj ps)) (ht : TriplesOk ps.toList) (hnf : codeAmong pos ps.toList = none) (ho : h.get? nsA = some (dictOf es n)) (e : (getL name es).isSome = true)
    (k : ∀ f c' ctv doc n' hsh tk h' tk', h.get? f = none → h.get? c' = none → h'.get? f = some (fnMade name (qualnameIn cenv name name) params body scope clos doc ((mg "__name__").getD .none) c' ctv) → h'.CodeRec (.ref c') (qualnameIn cenv name name) →
      h'.get? nsA = some (dictOf (putL name hsh (.str name tk) (.ref f) es) n') → h'.get? P = some (tabObj (ps ++ #[rawInt pos.line, rawInt pos.col, .ref c'])) → (∀ b o, b ≠ nsA → b ≠ P → h.get? b = some o → h'.get? b = some o) → Q .next ⟨h', g, d, tk', os⟩) :
    wpAny M A (exec (.FunctionDef name params body [] none [] scope none name pos) cenv) Q E ⟨h, g, d, t, os⟩ := by
  subst hl
  obtain ⟨hB, hgP⟩ := hbm.at hg kb hP
  have nP : cenv.locals ≠ P := by intro q; rw [q, hP] at ho; cases ho
  refine nestDef_K hd0 hk0 ha (makeFunction_K hcl hge (hg.keeps kb) hcd C hP ht hnf hgP hB fun c' ctv doc h' tk hx hge' hlt hrec htb => ?_)
  rw [hst]
  have hfs : (h'.push (fnMade name (qualnameIn cenv name name) params body scope clos doc ((mg "__name__").getD .none) c' ctv)).get? h'.objs.size = some (fnMade name (qualnameIn cenv name name) params body scope clos doc ((mg "__name__").getD .none) c' ctv) := Heap.get?_push_size _ rfl
  have hfn : h.get? h'.objs.size = none := Heap.get?_none_of_le (Nat.le_trans hge' (Nat.le_of_lt hlt))
  have hns₂ : (h'.push (fnMade name (qualnameIn cenv name name) params body scope clos doc ((mg "__name__").getD .none) c' ctv)).get? cenv.locals = some (dictOf es n) := Heap.get?_push_of_some _ (hx _ _ nP ho)
  refine loc_set hns₂ e fun h₃ n' hsh tk₃ hns₃ s₃ => ?_
  refine k h'.objs.size c' ctv doc n' hsh tk₃ h₃ _ hfn (Heap.get?_none_of_le hge') (s₃.extBut _ _ (fun q => by rw [q, ho] at hfn; cases hfn) hfs) ?_ hns₃ (s₃.extBut _ _ (Ne.symm nP) (Heap.get?_push_of_some _ htb)) fun b o b1 b2 eb => s₃.extBut b o b1 (Heap.get?_push_of_some _ (hx b o b2 eb))
  obtain ⟨c₂, oc, vs, t₂, e2, hoc, hd, hv⟩ := hrec
  cases e2
  refine ⟨c', oc, vs, t₂, rfl, s₃.extBut _ _ (fun q => ?_) (Heap.get?_push_of_some _ hoc), hd, hv⟩
  have : h.get? c' = none := Heap.get?_none_of_le hge'
  rw [q, ho] at this; cases this
end
end
end Mine
end

section
open PySem PySem.W PyProof.Rows
set_option maxRecDepth 100000
set_option maxHeartbeats 4000000
namespace Mine
open PySem PySem.Spec PySem.Calls PyProof.Rows PySem.W

namespace T
theorem dict_gi : typeLookup (.type "dict") "__getitem__" = pure (some (.builtin "dict.__getitem__")) := by rw [typeLookup_type, builtinLookup_eq_fast]; kernel_rfl
end T

section
variable {w : World} {mg mb : Str → Option Value} {hb : Heap} {prog : Program} {A : Around} {E : Value → Shared → Prop} {h : Heap} {g : Array GenState} {d : Drawn} {t : Nat} {os : OsState}

noncomputable abbrev cenvOf (scope : Scope) (nsA : Addr) (qual : Str) (cK F : Addr) (clos : List (Str × Addr)) : Env :=
  { scope, locals := nsA, globals := mainGlobals, qual := qual ++ ".", code := .ref cK, frame := some F, builtins := builtinsNs, cells := clos }

theorem build_cls {name qual : Str} {body : List Stmt} {scope : Scope} {statics : List Str} {fl : Nat} {env : Env} {pos : Pos} {clos : List (Str × Addr)} {c P : Addr} {Q : Value → Shared → Prop}
    (H : Bs w mg mb hb) (hbm : Bm mg hb) (kb : hb.StaysIn h) (hd : A.depth < recursionLimit)
    (hge : env.globals = mainGlobals) (hbb : env.builtins = builtinsNs) (hcode : env.code = .ref c) (hcl : closureFor scope env = pure clos) (C : CodeHd h c P) (hP : h.get? P = some (tabObj #[])) (hPb : hb.get? P = none)
    (hnc : (scope.names.lookup (Str.ofString "__class__") == some NameKind.cell) = false) (hnd : (scope.names.lookup (Str.ofString "__classdict__") == some NameKind.cell) = false)
    (k : ∀ bt nsA cK PK F h' tk tn, h.get? bt = none → h.get? nsA = none → h.get? cK = none → h.get? PK = none → h'.get? bt = some { cls := .type "tuple", data := .seq #[.type "object"] } → h'.get? nsA = some (dictOf [] 0) → CodeHd h' cK PK → h'.get? PK = some (tabObj #[]) →
      Heap.ExtBut P h h' → hb.StaysIn h' → (nsA == sysModules) = false → (∃ ps', h'.get? P = some (tabObj ps')) →
      wpAny (model prog w) A (do storeName (cenvOf scope nsA qual cK F clos) "__module__" (← loadName (cenvOf scope nsA qual cK F clos) "__name__"); storeName (cenvOf scope nsA qual cK F clos) "__qualname__" (← mkText qual); storeName (cenvOf scope nsA qual cK F clos) "__firstlineno__" (← mkInt fl); pure ()) (fun _ s₁ =>
        codeAny (model prog w) (A.mark none) (.body body (cenvOf scope nsA qual cK F clos)) (fun r s₂ => match r with
          | .ok _ => wpAny (model prog w) A (do storeName (cenvOf scope nsA qual cK F clos) "__static_attributes__" (← newTextTuple (← statics.mapM mkText)); pure ()) (fun _ s₃ => wpAny (model prog w) A (call (.type "type") [.str name tn, .ref bt, .ref nsA]) Q E s₃) (fun _ _ => False) s₂
          | .error _ => False) s₁) (fun _ _ => False) ⟨h', g, d, tk, os⟩) :
    wpAny (model prog w) A (buildClass name qual [.type "object"] [] body scope statics fl env pos none) Q E ⟨h, g, d, t, os⟩ := by
  unfold buildClass
  refine wpAny_bind ?_
  unfold newTuple
  refine nobj (by size_fits) (fun bt h₂ hbtn hbt k₂ => ?_) rfl
  wp_delta
  rw [List.forIn_cons]
  refine wpAny_bind (wpAny_bind (wpAny_bind (wpAny_of_eq T.e11 ?_)))
  wp_delta
  rw [if_pos rfl]
  wp_delta
  rw [if_neg (by decide)]
  refine wpAny_pure ?_
  wp_delta
  rw [List.forIn_nil]
  refine wpAny_pure ?_
  wp_delta
  refine wpAny_bind (wpAny_of_eq T.e12 ?_)
  wp_delta
  refine wpAny_bind (wpAny_of_eq T.e15 ?_)
  wp_delta
  rw [if_pos rfl]
  refine wpAny_bind ?_
  show wpAny _ _ (forIn [Value.type "object"] _ _) _ _ _
  rw [List.forIn_cons]
  refine wpAny_bind (wpAny_bind (wpAny_of_eq T.e12 (wpAny_bind (wpAny_of_eq T.e13 ?_))))
  rw [if_pos rfl]
  refine wpAny_pure ?_
  wp_delta
  show wpAny _ _ (forIn ([] : List Value) _ _) _ _ _
  rw [List.forIn_nil]
  refine wpAny_pure ?_
  wp_delta
  refine wpAny_bind (wpAny_mkText ?_)
  wp_delta
  rw [if_neg (by decide)]
  refine wpAny_bind (wpAny_pure ?_)
  refine wpAny_holding ?_
  refine wpAny_bind (prep fun pr h₃ tk₃ hpr k₃ => ?_)
  wp_delta
  refine wpAny_bind (prep_call hpr fun nsA h₄ tk₄ hnsn hns k₄ => ?_)
  wp_delta
  have k₀₃ : h.StaysIn h₃ := fun b o e => k₃ _ _ (k₂ _ _ e)
  have hb3 : (3 : Nat) < h₃.objs.size := by
    obtain ⟨o, _, _, e, _⟩ := H.g
    exact Heap.lt_size (k₀₃ _ _ (kb _ _ e))
  have hnm : (nsA == sysModules) = false := by
    have : nsA ≠ 1 := by intro q; rw [q] at hnsn; exact absurd hb3 (by walk_at "o")
    exact beq_false_of_ne this
  have hnsn' : h₃.get? nsA = none := Heap.get?_none_of_le hnsn
  unfold notTheModulesDict
  rw [hnm, if_neg (by decide)]
  refine wpAny_bind (wpAny_pure ?_)
  have hT2 : (⟨h₄, g, d, tk₄, os⟩ : Shared).TypeIs (.ref nsA) "dict" := ⟨_, hns, rfl⟩
  refine wpAny_bind (wpAny_specialOf hT2 T.dict_gi ?_)
  wp_delta
  rw [if_neg (by decide)]
  refine wpAny_holding ?_
  rw [hnc, hnd, if_neg (by decide)]
  refine wpAny_bind (wpAny_pure ?_)
  wp_delta
  rw [if_neg (by decide)]
  refine wpAny_bind (wpAny_pure ?_)
  wp_delta
  have k₀₄ : h.StaysIn h₄ := fun b o e => k₄ _ _ (k₀₃ _ _ e)
  refine wpAny_bind (class_code hcode (C.keeps k₀₄) (k₀₄ _ _ hP) trivial rfl fun cK PK h₅ tk₅ k₅ hcK hPK hcn hPn hPt => ?_)
  have kb₅ : hb.StaysIn h₅ := fun b o e => k₅ b o (fun q => by rw [q, hPb] at e; cases e) (k₀₄ _ _ (kb _ _ e))
  obtain ⟨bm, ob, b1, b2, b3, b4, b5, b6⟩ := id hbm
  rw [hge]
  refine wpAny_bind (wpAny_builtinsFor (H.g.keeps kb₅) b1 b2 (kb₅ _ _ b3) b4 b5 b6 ?_)
  refine wpAny_bind ?_
  unfold newBodyFrame
  refine wpAny_bind (wpAny_nsGet (H.g.keeps kb₅) ?_)
  refine nalloc rfl fun F h₆ hFn hF k₆ => ?_
  rw [hcl]
  refine wpAny_bind (wpAny_pure ?_)
  wp_delta
  refine wpAny_holding ?_
  have kb₆ : hb.StaysIn h₆ := fun b o e => k₆ _ _ (kb₅ _ _ e)
  refine wpAny_bind (wpAny_enterFrame (H.lim.keeps kb₆) hd ?_)
  have PH : h.get? P = some (tabObj #[]) := hP
  have nP : ∀ {x : Addr}, h.get? x = none → x ≠ P := fun e q => by rw [q, hP] at e; cases e
  have fbt : h.get? bt = none := hbtn
  have fns : h.get? nsA = none := stays_none k₀₃ hnsn'
  have fcK : h.get? cK = none := stays_none k₀₄ hcn
  have fPK : h.get? PK = none := stays_none k₀₄ hPn
  have kk := k bt nsA cK PK F h₆ tk₅ t fbt fns fcK fPK (k₆ _ _ (k₅ _ _ (nP fbt) (k₄ _ _ (k₃ _ _ hbt)))) (k₆ _ _ (k₅ _ _ (nP fns) hns)) (hcK.keeps k₆) (k₆ _ _ hPK) (fun b o hne e => k₆ _ _ (k₅ _ _ hne (k₀₄ _ _ e))) kb₆ hnm (let ⟨ps', e⟩ := hPt; ⟨ps', k₆ _ _ e⟩)
  refine wpAny_bind (wpAny_onRaise ?_)
  refine wpAny_mono kk (fun _ s₁ hk₁ => ?_) fun _ _ z => z.elim
  wp_delta
  refine wpAny_bind (wpAny_run (codeAny_mono hk₁ fun r s₂ hr => ?_) (by intro z; cases z))
  cases r with
  | error e => exact hr.elim
  | ok fl' =>
    dsimp only at hr ⊢
    refine wpAny_bind (wpAny_onRaise (wpAny_mono hr (fun _ s₃ hk₃ => ?_) fun _ _ z => z.elim))
    rw [if_neg (by decide)]
    refine wpAny_bind (wpAny_mono hk₃ (fun v s₄ hv => ?_) fun _ _ z => z)
    exact wpAny_pure hv
end
end Mine
end

section
open PySem PySem.W PyProof.Rows
set_option maxRecDepth 100000
set_option maxHeartbeats 4000000
namespace Mine
open PySem PySem.Spec PySem.Calls PyProof.Rows PySem.W

noncomputable def stmtsOf : Stmt → List Stmt | .FunctionDef _ _ b .. => b | .ClassDef _ _ _ b .. => b | _ => []
noncomputable def parOf : Stmt → Arguments | .FunctionDef _ a .. => a | _ => ⟨[], [], none, [], [], none, []⟩
noncomputable def scpOf : Stmt → Scope | .FunctionDef _ _ _ _ _ _ s .. => s | _ => { kind := .function, names := [], isGenerator := false, isCoroutine := false, more := [] }
noncomputable def nth (l : List Stmt) (i : Nat) : Stmt := l.getD i (.Pass ⟨0, 0, 0, 0⟩)
noncomputable def KB : List Stmt := stmtsOf (nth (stmtsOf (nth PySem.Challenge.pw_kt0005_01.main.body 13)) 0)
noncomputable def initS : Stmt := nth KB 2
noncomputable def ltS : Stmt := nth KB 3

structure KParts where
  a : Addr
  ns : Addr
  md : Addr
  fi : Addr
  ci : Addr
  fl : Addr
  cl : Addr
  cell : Addr
  hs : Nat → Int
  ts : Nat → Tok
  vs : Nat → Value
  ho : Int
  hd : Int
  to : Tok
  td : Tok
  tmd : Tok
  n : Nat
  qual : Str
  sl : Array (Option Value)
  qi : Str
  ql : Str
  di : Value
  dl : Value
  pm : Value
  ti : Value
  tl : Value
noncomputable def KParts.addrs (p : KParts) : List Addr := [p.a, p.ns, p.md, p.fi, p.ci, p.fl, p.cl, p.cell]
/-- the class K stands -/
structure KOk (h : Heap) (lam : Addr) (p : KParts) : Prop where
  hcls : h.get? p.a = some (clsObj { name := "K", bases := [.type "object"], mro := [.ref p.a, .type "object"], ns := p.ns, qualname := p.qual, hasDict := false, slotNames := ["obj"] } p.sl)
  hns : h.get? p.ns = some (dictOf (KF p.hs p.ts p.vs p.ho p.hd p.to p.td p.md) p.n)
  hmd : h.get? p.md = some (mdObj p.a p.tmd)
  v4 : p.vs 4 = .ref p.fi
  v5 : p.vs 5 = .ref p.fl
  hfi : h.get? p.fi = some (fnMade "__init__" p.qi (parOf initS) (stmtsOf initS) (scpOf initS) [] p.di p.pm p.ci p.ti)
  hci : h.CodeRec (.ref p.ci) p.qi
  hfl : h.get? p.fl = some (fnMade "__lt__" p.ql (parOf ltS) (stmtsOf ltS) (scpOf ltS) [("mycmp", p.cell)] p.dl p.pm p.cl p.tl)
  hcl : h.CodeRec (.ref p.cl) p.ql
  hcell : h.IsCell p.cell (some (.ref lam))
  sl4 : (p.sl.toList[4]?).join = some (.builtin "object.__new__")
theorem rec_at {h h' : Heap} {c : Addr} {q : Str} (x : h.CodeRec (.ref c) q) (k : ∀ o, h.get? c = some o → h'.get? c = some o) : h'.CodeRec (.ref c) q := by
  obtain ⟨c₂, oc, vs, t, e2, hoc, r⟩ := x
  cases e2
  exact ⟨c, oc, vs, t, rfl, k _ hoc, r⟩
theorem KOk.at {h h' : Heap} {lam : Addr} {p : KParts} (x : KOk h lam p) (k : ∀ b ∈ p.addrs, ∀ o, h.get? b = some o → h'.get? b = some o) : KOk h' lam p :=
  ⟨k _ (by simp [KParts.addrs]) _ x.hcls, k _ (by simp [KParts.addrs]) _ x.hns, k _ (by simp [KParts.addrs]) _ x.hmd, x.v4, x.v5, k _ (by simp [KParts.addrs]) _ x.hfi, rec_at x.hci (k _ (by simp [KParts.addrs])), k _ (by simp [KParts.addrs]) _ x.hfl, rec_at x.hcl (k _ (by simp [KParts.addrs])),
    (let ⟨o, e, d⟩ := x.hcell; ⟨o, k _ (by simp [KParts.addrs]) _ e, d⟩), x.sl4⟩

theorem setn_ref {M : Model} {h : Heap} {a : Addr} {o : Obj} {T : String} (ho : h.get? a = some o) (hc : o.cls = .type T) (hT : typeLookup (.type T) "__set_name__" = pure none) : Looks M h (specialOf (.ref a) "__set_name__") none := by
  intro A Q E s k q
  unfold specialOf
  exact wpAny_bind (wpAny_typeOf (T := T) ⟨_, k _ _ ho, hc⟩ (wpAny_of_eq hT q))
namespace T
theorem sn_fun : typeLookup (.type "function") "__set_name__" = pure none := by rw [typeLookup_type, builtinLookup_eq_fast]; kernel_rfl
theorem sn_list : typeLookup (.type "list") "__set_name__" = pure none := by rw [typeLookup_type, builtinLookup_eq_fast]; kernel_rfl
theorem sn_tup : typeLookup (.type "tuple") "__set_name__" = pure none := by rw [typeLookup_type, builtinLookup_eq_fast]; kernel_rfl
theorem sn_str {M : Model} {h : Heap} (x : Str) (t : Tok) : Looks M h (specialOf (.str x t) "__set_name__") none := Looks.of_pure (by kernel_rfl)
theorem sn_int {M : Model} {h : Heap} (x : Int) (t : Tok) : Looks M h (specialOf (.int x t) "__set_name__") none := Looks.of_pure (by kernel_rfl)
theorem sn_none {M : Model} {h : Heap} : Looks M h (specialOf .none "__set_name__") none := Looks.of_pure (by kernel_rfl)
end T

section
variable {prog : Program} {w : World} {A : Around} {s : Shared}
theorem body_code {body : List Stmt} {env : Env} {R : Result → Shared → Prop} (hann : hasAnns body = false) (hi : interactive env = false) (hdoc : docOf body = none)
    (h : wpAny (model prog w) (A.deeper env) (execs body env) (fun f s' => R (.ok f) s') (fun _ _ => False) s) : codeAny (model prog w) A (.body body env) R s := by
  refine codeAny_of_tree ?_
  show wpAny _ (A.deeper env) (blockStart body env >>= fun _ => _) _ _ _
  unfold blockStart
  rw [hann, if_neg (by decide), hi, if_neg (by decide), hdoc]
  refine wpAny_bind (wpAny_pure ?_)
  exact wpAny_bind (wpAny_onRaise (wpAny_mono h (fun f s' hf => wpAny_pure hf) fun _ _ z => z.elim))
end
section
variable {M : Model} {A : Around} {E : Value → Shared → Prop} {h : Heap} {g : Array GenState} {d : Drawn} {t : Nat} {os : OsState}
theorem mkT {x : Str} {Q : Value → Shared → Prop} (k : Q (.str x t) ⟨h, g, d, t + 1, os⟩) : wpAny M A (mkText x) Q E ⟨h, g, d, t, os⟩ := wpAny_mkText k
theorem mkI {x : Int} {Q : Value → Shared → Prop} (k : Q (.int x t) ⟨h, g, d, t + 1, os⟩) : wpAny M A (mkInt x) Q E ⟨h, g, d, t, os⟩ := wpAny_mkInt k
theorem cS {env : Env} {x : Str} {k' pos} {Q : Value → Shared → Prop} (k : Q (.str x t) ⟨h, g, d, t + 1, os⟩) : wpAny M A (eval (.Constant (.str x) k' pos) env) Q E ⟨h, g, d, t, os⟩ := wpAny_Constant_str k
theorem dispL {prog : Program} {w : World} {env : Env} {elts : List Expr} {pos : Pos} {Q : Value → Shared → Prop} (hh : wpAny (model prog w) A (spliced (backTo pos (starEach elts env))) (fun vs s₁ => Ex2 fun h₁ t₁ => s₁ = ⟨h₁, g, d, t₁, os⟩ ∧ vs.length ≤ sizeLine ∧
      ∀ D h', h₁.StaysIn h' → h₁.get? D = none → LS h' D vs → Q (.ref D) ⟨h', g, d, t₁, os⟩) E ⟨h, g, d, t, os⟩) : wpAny (model prog w) A (eval (.List elts pos) env) Q E ⟨h, g, d, t, os⟩ := by
  refine Disp (wpAny_mono hh ?_ fun _ _ z => z)
  rintro vs s₁ ⟨_, _, rfl, a, b⟩
  exact ⟨a, b⟩
theorem st_K {env : Env} {nsA : Addr} {es : List DictEntry} {n : Nat} {name : Str} {v : Value} {Q : Unit → Shared → Prop} (hx : storeName env name v = localSet env name v) (hl : env.locals = nsA) (ho : h.get? nsA = some (dictOf es n)) (e : (getL name es).isSome = true)
    (k : ∀ h' n' hsh tk, h'.get? nsA = some (dictOf (putL name hsh (.str name tk) v es) n') → Heap.SameBut nsA h h' → Q () ⟨h', g, d, t + 1, os⟩) : wpAny M A (storeName env name v) Q E ⟨h, g, d, t, os⟩ := by
  subst hl; rw [hx]; exact loc_set ho e k
end

section
variable {w : World} {mg mb : Str → Option Value} {hb : Heap} {prog : Program} {A : Around} {outer : List Env} {s : Shared} {E : Value → Shared → Prop}

theorem name_in (p : Params) : Ex2 fun x t => nsIn (TopF p) mainGlobals "__name__" = some (some (.str x t)) := ⟨_, _, rfl⟩

theorem ld_name {cenv : Env} {nsA : Addr} {n : Nat} {v : Value} {h : Heap} {g : Array GenState} {d : Drawn} {t : Nat} {os : OsState} {Q : Value → Shared → Prop} (H : Bs w mg mb hb) (kb : hb.StaysIn h) (hn : mg "__name__" = some v)
    (hk : cenv.scope.kind = .class) (hx : cenv.kindOf "__name__" = none) (hl : cenv.locals = nsA) (hg : cenv.globals = mainGlobals) (ho : h.get? nsA = some (dictOf [] n)) (k : Q v ⟨h, g, d, t, os⟩) :
    wpAny (model prog w) A (loadName cenv "__name__") Q E ⟨h, g, d, t, os⟩ := by
  subst hl
  have hb1 : cenv.blockKind = .class := by unfold Env.blockKind; rw [hk]; rfl
  unfold loadName
  rw [hk, hb1, hx]
  refine wpAny_ite_split (fun hab => absurd hab (by simp [ScopeKind.isAnnotationScope])) (fun _ => ?_)
  dsimp only
  refine wpAny_ite_split (fun hab => absurd hab (by decide +kernel)) (fun _ => ?_)
  refine wpAny_bind (loc_get ho (r := none) rfl ?_)
  exact loadGlobal_global (env := cenv) (hg ▸ H.g.keeps kb) hn k

theorem cmp_fn {lam : Addr} {Q : Value → Shared → Prop} (H : Bs w mg mb hb) (B : Below A hb outer s.heap) (hd : A.depth + 4 < recursionLimit) (hh : A.handled = none)
    (hbm : Bm mg hb) (C : CodeHd s.heap 101 97) (hP : s.heap.get? 97 = some (tabObj #[])) (hPb : hb.get? 97 = none)
    (kq : ∀ p h' tk, (∀ b ∈ p.addrs, s.heap.get? b = none) → KOk h' lam p → Ret [97] (fr outer) s.heap h' → (∃ ps, h'.get? 97 = some (tabObj ps)) → Q (.ref p.a) { s with heap := h', toks := tk }) :
    wpAny (model prog w) A (call (.ref 102) [.ref lam]) Q E s := by
  have ho : (TopF w.params).lookup 102 = some ⟨_, _, .func (fnX _ _ _ _ _ _ _ _ _ _ _ _ _), _⟩ := rfl
  refine enterK (binds := [("mycmp", .ref lam)]) H B (by walk_at "o") ho (by kernel_rfl) (BindsTo.of_eq rfl) (fun n => kinds_of (by kinds_ok)) fun L h₁ tk hLs hnn hc k B₁ => ?_
  clear ho
  obtain ⟨h₀, g, d, t₀, os⟩ := s
  dsimp only at *
  have hcl : h₁.IsCell (L + 1) (some (.ref lam)) := (hc "mycmp" (L + 1) rfl).1
  clear hc
  have C₁ := C.keeps k
  have hLn : h₀.get? L = none := Heap.get?_none_of_le (by rw [hLs]; exact Nat.le_refl _)
  have hP₁ := k _ _ hP
  refine wpXS ?_
  intro env₀ A₀ E₀ Q₀ s₀
  refine wpAny_execs_cons (ClassDef1 H B₁.stays rfl (gB (v := .type "object") H B₁.stays (by kernel_rfl) (by kernel_rfl) ?_))
  obtain ⟨nmx, nmt, hnm⟩ := name_in w.params
  have qn := mg_of H.X H.g hnm
  clear hnm
  refine build_cls (clos := [("mycmp", L + 1)]) H hbm B₁.stays (show A.depth + 1 < recursionLimit by walk_at "o") rfl rfl rfl rfl C₁ hP₁ hPb (by kernel_rfl) (by kernel_rfl) fun bt nsA cK PK F h₂ tk₂ tn fbt fns fcK fPK hbt hns hcK hPK k₂ kb₂ hnmod hPt => ?_
  refine wpAny_bind (ld_name H kb₂ qn rfl (by kernel_rfl) rfl rfl hns ?_)
  refine wpAny_bind (st_K (by kernel_rfl) rfl hns rfl fun h₃ n₃ hs₀ ts₀ hns₃ s₃ => ?_)
  refine wpAny_bind (mkT ?_)
  refine wpAny_bind (st_K (by kernel_rfl) rfl hns₃ rfl fun h₄ n₄ hs₁ ts₁ hns₄ s₄ => ?_)
  refine wpAny_bind (mkI ?_)
  refine wpAny_bind (st_K (by kernel_rfl) rfl hns₄ rfl fun h₅ n₅ hs₂ ts₂ hns₅ s₅ => ?_)
  refine wpAny_pure ?_
  refine body_code (by kernel_rfl) (by kernel_rfl) (by kernel_rfl) ?_
  refine wpXS ?_
  intro env₀ A₀ E₀ Q₀ s₀
  refine wpAny_execs_cons (wpAny_Assign_Name (cS ?_))
  refine st_K (by kernel_rfl) rfl hns₅ (by kernel_rfl) fun h₆ n₆ hx₀ tx₀ hns₆ s₆ => ?_
  refine wpXS ?_
  intro env₀ A₀ E₀ Q₀ s₀
  refine wpAny_execs_cons (wpAny_Assign_Name (dispL (sp1 (cS (sp0 ⟨h₆, _, rfl, by simp [sizeLine_eq], fun sl h₇ k₇ hsln hsl => ?_⟩)))))
  refine st_K (by kernel_rfl) rfl (k₇ _ _ hns₆) (by kernel_rfl) fun h₈ n₈ hs₃ ts₃ hns₈ s₈ => ?_
  have sam : ∀ {b : Addr}, h₀.get? b = none → ∀ {o : Obj}, h₀.get? b = some o → False := fun e _ e' => by rw [e] at e'; cases e'
  have nb : ∀ b o, b ≠ nsA → h₂.get? b = some o → h₈.get? b = some o := fun b o hb e => s₈.extBut b o hb (k₇ _ _ (s₆.extBut b o hb (s₅.extBut b o hb (s₄.extBut b o hb (s₃.extBut b o hb e)))))
  have nsn : ∀ {b : Addr} {o : Obj}, hb.get? b = some o → b ≠ nsA := fun e q => by rw [q] at e; have := B₁.stays _ _ e; rw [fns] at this; cases this
  have kb₈ : hb.StaysIn h₈ := fun b o e => nb b o (nsn e) (kb₂ _ _ e)
  have nCK : cK ≠ nsA := by intro q; obtain ⟨_, _, _, _, _, _, _, _, _, e, ec, _⟩ := hcK; rw [q, hns] at e; cases e; simp at ec
  have nPK : PK ≠ nsA := by intro q; rw [q, hns] at hPK; cases hPK
  have cK₈ : CodeHd h₈ cK PK := codeHd_at hcK (fun o e => nb _ _ nCK e)
  have pK₈ : h₈.get? PK = some (tabObj #[]) := nb _ _ nPK hPK
  have bPK : hb.get? PK = none := stays_none B₁.stays fPK
  have slL : LS h₈ sl [.str (Str.ofString "obj") _] := hsl.at fun o e => s₈.extBut sl o (fun q => by rw [q] at hsln; rw [hns₆] at hsln; cases hsln) e
  have btL : h₈.get? bt = some { cls := .type "tuple", data := .seq #[.type "object"] } := nb _ _ (fun q => by rw [q, hns] at hbt; simp at hbt) hbt
  refine wpXS ?_
  intro env₀ A₀ E₀ Q₀ s₀
  refine wpAny_execs_cons (def_in (nsA := nsA) (c := cK) (P := PK) (clos := []) H.g hbm kb₈ rfl rfl rfl (fun v => by kernel_rfl) rfl rfl rfl rfl cK₈ pK₈ (by simp [TriplesOk, rawInt]) (by simp [codeAmong, rawInt]) hns₈ (by kernel_rfl) fun f₀ c₀ ct₀ dc₀ m₀ hf₀ tf₀ g₀ u₀ fn₀ cn₀ fo₀ cr₀ gn₀ pk₀ nb₀ => ?_)
  have kg₀ : hb.StaysIn g₀ := fun b o e => nb₀ b o (nsn e) (fun q => by rw [q, bPK] at e; cases e) (kb₈ _ _ e)
  have ck₀ : CodeHd g₀ cK PK := codeHd_at cK₈ (fun o e => nb₀ _ _ nCK (by obtain ⟨_, _, _, _, _, _, _, _, _, _, _, _, _, _, _, _, _, _, z⟩ := cK₈; exact z) e)
  refine wpXS ?_
  intro env₀ A₀ E₀ Q₀ s₀
  refine wpAny_execs_cons (def_in (nsA := nsA) (c := cK) (P := PK) (clos := [("mycmp", L + 1)]) H.g hbm kg₀ rfl rfl rfl (fun v => by kernel_rfl) rfl rfl rfl rfl ck₀ pk₀ (by simp [TriplesOk, rawInt]) (by simp [codeAmong, rawInt]) gn₀ (by kernel_rfl) fun f₁ c₁ ct₁ dc₁ m₁ hf₁ tf₁ g₁ u₁ fn₁ cn₁ fo₁ cr₁ gn₁ pk₁ nb₁ => ?_)
  have kg₁ : hb.StaysIn g₁ := fun b o e => nb₁ b o (nsn e) (fun q => by rw [q, bPK] at e; cases e) (kg₀ _ _ e)
  have ck₁ : CodeHd g₁ cK PK := codeHd_at ck₀ (fun o e => nb₁ _ _ nCK (by obtain ⟨_, _, _, _, _, _, _, _, _, _, _, _, _, _, _, _, _, _, z⟩ := ck₀; exact z) e)
  refine wpXS ?_
  intro env₀ A₀ E₀ Q₀ s₀
  refine wpAny_execs_cons (def_in (nsA := nsA) (c := cK) (P := PK) (clos := [("mycmp", L + 1)]) H.g hbm kg₁ rfl rfl rfl (fun v => by kernel_rfl) rfl rfl rfl rfl ck₁ pk₁ (by simp [TriplesOk, rawInt]) (by simp [codeAmong, rawInt]) gn₁ (by kernel_rfl) fun f₂ c₂ ct₂ dc₂ m₂ hf₂ tf₂ g₂ u₂ fn₂ cn₂ fo₂ cr₂ gn₂ pk₂ nb₂ => ?_)
  have kg₂ : hb.StaysIn g₂ := fun b o e => nb₂ b o (nsn e) (fun q => by rw [q, bPK] at e; cases e) (kg₁ _ _ e)
  have ck₂ : CodeHd g₂ cK PK := codeHd_at ck₁ (fun o e => nb₂ _ _ nCK (by obtain ⟨_, _, _, _, _, _, _, _, _, _, _, _, _, _, _, _, _, _, z⟩ := ck₁; exact z) e)
  refine wpXS ?_
  intro env₀ A₀ E₀ Q₀ s₀
  refine wpAny_execs_cons (def_in (nsA := nsA) (c := cK) (P := PK) (clos := [("mycmp", L + 1)]) H.g hbm kg₂ rfl rfl rfl (fun v => by kernel_rfl) rfl rfl rfl rfl ck₂ pk₂ (by simp [TriplesOk, rawInt]) (by simp [codeAmong, rawInt]) gn₂ (by kernel_rfl) fun f₃ c₃ ct₃ dc₃ m₃ hf₃ tf₃ g₃ u₃ fn₃ cn₃ fo₃ cr₃ gn₃ pk₃ nb₃ => ?_)
  have kg₃ : hb.StaysIn g₃ := fun b o e => nb₃ b o (nsn e) (fun q => by rw [q, bPK] at e; cases e) (kg₂ _ _ e)
  have ck₃ : CodeHd g₃ cK PK := codeHd_at ck₂ (fun o e => nb₃ _ _ nCK (by obtain ⟨_, _, _, _, _, _, _, _, _, _, _, _, _, _, _, _, _, _, z⟩ := ck₂; exact z) e)
  refine wpXS ?_
  intro env₀ A₀ E₀ Q₀ s₀
  refine wpAny_execs_cons (def_in (nsA := nsA) (c := cK) (P := PK) (clos := [("mycmp", L + 1)]) H.g hbm kg₃ rfl rfl rfl (fun v => by kernel_rfl) rfl rfl rfl rfl ck₃ pk₃ (by simp [TriplesOk, rawInt]) (by simp [codeAmong, rawInt]) gn₃ (by kernel_rfl) fun f₄ c₄ ct₄ dc₄ m₄ hf₄ tf₄ g₄ u₄ fn₄ cn₄ fo₄ cr₄ gn₄ pk₄ nb₄ => ?_)
  have kg₄ : hb.StaysIn g₄ := fun b o e => nb₄ b o (nsn e) (fun q => by rw [q, bPK] at e; cases e) (kg₃ _ _ e)
  have ck₄ : CodeHd g₄ cK PK := codeHd_at ck₃ (fun o e => nb₄ _ _ nCK (by obtain ⟨_, _, _, _, _, _, _, _, _, _, _, _, _, _, _, _, _, _, z⟩ := ck₃; exact z) e)
  refine wpXS ?_
  intro env₀ A₀ E₀ Q₀ s₀
  refine wpAny_execs_cons (def_in (nsA := nsA) (c := cK) (P := PK) (clos := [("mycmp", L + 1)]) H.g hbm kg₄ rfl rfl rfl (fun v => by kernel_rfl) rfl rfl rfl rfl ck₄ pk₄ (by simp [TriplesOk, rawInt]) (by simp [codeAmong, rawInt]) gn₄ (by kernel_rfl) fun f₅ c₅ ct₅ dc₅ m₅ hf₅ tf₅ g₅ u₅ fn₅ cn₅ fo₅ cr₅ gn₅ pk₅ nb₅ => ?_)
  have kg₅ : hb.StaysIn g₅ := fun b o e => nb₅ b o (nsn e) (fun q => by rw [q, bPK] at e; cases e) (kg₄ _ _ e)
  have ck₅ : CodeHd g₅ cK PK := codeHd_at ck₄ (fun o e => nb₅ _ _ nCK (by obtain ⟨_, _, _, _, _, _, _, _, _, _, _, _, _, _, _, _, _, _, z⟩ := ck₄; exact z) e)
  refine wpXS ?_
  intro env₀ A₀ E₀ Q₀ s₀
  refine wpAny_execs_cons (wpAny_Assign_Name (Constant_none ?_))
  refine st_K (by kernel_rfl) rfl gn₅ (by kernel_rfl) fun g₆ m₆ hf₆ tf₆ gn₆ s₆' => ?_
  refine wpAny_execs_nil ?_
  try dsimp only
  refine wpAny_bind (wpAny_mkStrs fun sv => ?_)
  show wpAny _ _ _ _ _ ⟨g₆, g, d, _, os⟩
  refine wpAny_bind (wpAny_newTextTuple ?_)
  have hsaf : (g₆.push { cls := .type "tuple", data := .seq sv.toArray }).get? g₆.objs.size = some { cls := .type "tuple", data := .seq sv.toArray } := Heap.get?_push_size _ rfl
  have hsan : g₆.get? g₆.objs.size = none := Heap.get?_none_of_le (Nat.le_refl _)
  have k₇' : g₆.StaysIn (g₆.push { cls := .type "tuple", data := .seq sv.toArray }) := fun b o e => Heap.get?_push_of_some _ e
  show wpAny _ _ _ _ _ ⟨g₆.push { cls := .type "tuple", data := .seq sv.toArray }, g, d, _, os⟩
  generalize (g₆.push { cls := .type "tuple", data := .seq sv.toArray }) = g₇ at *
  generalize g₆.objs.size = sa at *
  refine wpAny_bind (st_K (by kernel_rfl) rfl (k₇' _ _ gn₆) (by kernel_rfl) fun g₈ m₈ hf₈ tf₈ gn₈ s₈' => ?_)
  refine wpAny_pure ?_
  have kb₉ : hb.StaysIn g₈ := fun b o e => s₈'.extBut b o (nsn e) (k₇' _ _ (s₆'.extBut b o (nsn e) (kg₅ _ _ e)))
  have upg₅ : ∀ b o, b ≠ nsA → b ≠ PK → g₅.get? b = some o → g₈.get? b = some o := fun b o b1 b2 e => s₈'.extBut b o b1 (k₇' _ _ (s₆'.extBut b o b1 e))
  have upg₄ : ∀ b o, b ≠ nsA → b ≠ PK → g₄.get? b = some o → g₈.get? b = some o := fun b o b1 b2 e => upg₅ b o b1 b2 (nb₅ b o b1 b2 e)
  have upg₃ : ∀ b o, b ≠ nsA → b ≠ PK → g₃.get? b = some o → g₈.get? b = some o := fun b o b1 b2 e => upg₄ b o b1 b2 (nb₄ b o b1 b2 e)
  have upg₂ : ∀ b o, b ≠ nsA → b ≠ PK → g₂.get? b = some o → g₈.get? b = some o := fun b o b1 b2 e => upg₃ b o b1 b2 (nb₃ b o b1 b2 e)
  have upg₁ : ∀ b o, b ≠ nsA → b ≠ PK → g₁.get? b = some o → g₈.get? b = some o := fun b o b1 b2 e => upg₂ b o b1 b2 (nb₂ b o b1 b2 e)
  have upg₀ : ∀ b o, b ≠ nsA → b ≠ PK → g₀.get? b = some o → g₈.get? b = some o := fun b o b1 b2 e => upg₁ b o b1 b2 (nb₁ b o b1 b2 e)
  have up₈ : ∀ b o, b ≠ nsA → b ≠ PK → h₈.get? b = some o → g₈.get? b = some o := fun b o b1 b2 e => upg₀ b o b1 b2 (nb₀ b o b1 b2 e)
  have up₁ : ∀ b o, b ≠ 97 → h₁.get? b = some o → g₈.get? b = some o := fun b o bp e =>
    up₈ b o (fun q => by rw [q, fns] at e; cases e) (fun q => by rw [q, fPK] at e; cases e) (nb b o (fun q => by rw [q, fns] at e; cases e) (k₂ b o bp e))
  have nsl : sl ≠ nsA ∧ sl ≠ PK := ⟨(ne_of hsln hns₆), ne_of hsln (s₆.extBut PK _ nPK (s₅.extBut PK _ nPK (s₄.extBut PK _ nPK (s₃.extBut PK _ nPK hPK))))⟩
  have nbt : bt ≠ nsA ∧ bt ≠ PK := ⟨(fun q => by rw [q, hns] at hbt; simp at hbt), (fun q => by rw [q, hPK] at hbt; simp at hbt)⟩
  have nf₀ : f₀ ≠ nsA ∧ f₀ ≠ PK := ⟨(ne_of fn₀ hns₈), (ne_of fn₀ pK₈)⟩
  have nc₀ : c₀ ≠ nsA ∧ c₀ ≠ PK := ⟨(ne_of cn₀ hns₈), (ne_of cn₀ pK₈)⟩
  have ff₀ := upg₀ _ _ nf₀.1 nf₀.2 fo₀
  have nf₁ : f₁ ≠ nsA ∧ f₁ ≠ PK := ⟨(ne_of fn₁ gn₀), (ne_of fn₁ pk₀)⟩
  have nc₁ : c₁ ≠ nsA ∧ c₁ ≠ PK := ⟨(ne_of cn₁ gn₀), (ne_of cn₁ pk₀)⟩
  have ff₁ := upg₁ _ _ nf₁.1 nf₁.2 fo₁
  have nf₂ : f₂ ≠ nsA ∧ f₂ ≠ PK := ⟨(ne_of fn₂ gn₁), (ne_of fn₂ pk₁)⟩
  have nc₂ : c₂ ≠ nsA ∧ c₂ ≠ PK := ⟨(ne_of cn₂ gn₁), (ne_of cn₂ pk₁)⟩
  have ff₂ := upg₂ _ _ nf₂.1 nf₂.2 fo₂
  have nf₃ : f₃ ≠ nsA ∧ f₃ ≠ PK := ⟨(ne_of fn₃ gn₂), (ne_of fn₃ pk₂)⟩
  have nc₃ : c₃ ≠ nsA ∧ c₃ ≠ PK := ⟨(ne_of cn₃ gn₂), (ne_of cn₃ pk₂)⟩
  have ff₃ := upg₃ _ _ nf₃.1 nf₃.2 fo₃
  have nf₄ : f₄ ≠ nsA ∧ f₄ ≠ PK := ⟨(ne_of fn₄ gn₃), (ne_of fn₄ pk₃)⟩
  have nc₄ : c₄ ≠ nsA ∧ c₄ ≠ PK := ⟨(ne_of cn₄ gn₃), (ne_of cn₄ pk₃)⟩
  have ff₄ := upg₄ _ _ nf₄.1 nf₄.2 fo₄
  have nf₅ : f₅ ≠ nsA ∧ f₅ ≠ PK := ⟨(ne_of fn₅ gn₄), (ne_of fn₅ pk₄)⟩
  have nc₅ : c₅ ≠ nsA ∧ c₅ ≠ PK := ⟨(ne_of cn₅ gn₄), (ne_of cn₅ pk₄)⟩
  have ff₅ := upg₅ _ _ nf₅.1 nf₅.2 fo₅
  have fsa : g₈.get? sa = some { cls := .type "tuple", data := .seq sv.toArray } := s₈'.extBut sa _ (ne_of hsan gn₆) hsaf
  have fsl : LS g₈ sl [.str (Str.ofString "obj") _] := slL.at fun o e => up₈ _ _ nsl.1 nsl.2 e
  have fbt' := up₈ _ _ nbt.1 nbt.2 btL
  have fst := kb₉ _ _ (H.X _ _ (stat_in w.params))
  let hsF : Nat → Int := fun i => [hs₀, hs₁, hs₂, hs₃, hf₀, hf₁, hf₂, hf₃, hf₄, hf₅, hf₆, hf₈].getD i 0
  let tsF : Nat → Tok := fun i => [ts₀, ts₁, ts₂, ts₃, tf₀, tf₁, tf₂, tf₃, tf₄, tf₅, tf₆, tf₈].getD i 0
  let vsF : Nat → Value := fun i => [.str (Str.ofString "cpy313.functools") (tk₂ + 1 + 1 + 1 + 1 + 1), .str (Str.ofString "cmp_to_key.<locals>.K") (tk₂ + 1), .int 73 (tk₂ + 1 + 1 + 1), .ref sl, .ref f₀, .ref f₁, .ref f₂, .ref f₃, .ref f₄, .ref f₅, .none, .ref sa].getD i .none
  have hKE : g₈.get? nsA = some (dictOf (KE hsF tsF vsF) m₈) := gn₈.trans (by kernel_rfl)
  have kbp : hb.StaysIn g₈ := kb₉
  refine type_make (sl := sl) hKE fbt' (fun i k => ?_) fst (by kernel_rfl) ?_ rfl rfl fsl ?_ fun a ns md ho hd' to td tmd n h' tk' fa fns' fmd hns' hmd' ha' K' => ?_
  · cases k <;> first | rfl | (rcases i with _ | _ | _ | _ | _ | _ | _ | _ | _ | _ | _ | _ | i <;> rfl)
  · intro i h1 h12
    rcases i with _ | _ | _ | _ | _ | _ | _ | _ | _ | _ | _ | _ | i
    · exact T.sn_str _ _
    · exact absurd rfl h1
    · exact T.sn_int _ _
    · obtain ⟨_, e⟩ := fsl; exact setn_ref e rfl T.sn_list
    · exact setn_ref ff₀ rfl T.sn_fun
    · exact setn_ref ff₁ rfl T.sn_fun
    · exact setn_ref ff₂ rfl T.sn_fun
    · exact setn_ref ff₃ rfl T.sn_fun
    · exact setn_ref ff₄ rfl T.sn_fun
    · exact setn_ref ff₅ rfl T.sn_fun
    · exact T.sn_none
    · exact setn_ref fsa rfl T.sn_tup
    · omega
  · exact hnmod
  show wpAny _ _ _ _ _ ⟨h', g, d, tk', os⟩
  have kl := fun b o (bp : b ≠ 97) e => K' b o (up₁ b o bp e)
  have hL97 : L ≠ 97 := ne_of hLn hP
  have hnn' : h'.Ns L _ := hnn.at' fun o e => kl _ o hL97 e
  refine sL hnn' fun h'' hn'' hs'' => ?_
  refine wpXS ?_
  intro env₀ A₀ E₀ Q₀ s₀
  refine wpAny_execs_cons (wpAny_Return_some (gL hn'' (by walk_at "m") ?_))
  show Q (.ref a) ⟨h'', g, d, _, os⟩
  have aL : ∀ {b : Addr}, h₁.get? b = none → b ≠ L := fun e q => by obtain ⟨o, _, _, e', _⟩ := hnn; rw [← q, e] at e'; cases e'
  obtain ⟨pst, hPt⟩ := hPt
  have h97g : g₈.get? 97 = some (tabObj pst) := up₈ _ _ (by rintro q; rw [← q, hP₁] at fns; cases fns) (by rintro q; rw [← q, hP₁] at fPK; cases fPK) (nb _ _ (by rintro q; rw [← q, hP₁] at fns; cases fns) hPt)
  have fr₁ : ∀ {b : Addr}, g₈.get? b = none → h₁.get? b = none := fun {b} e => by
    cases q : h₁.get? b with
    | none => rfl
    | some o =>
      by_cases hb : b = 97
      · rw [hb, h97g] at e; cases e
      · rw [up₁ b o hb q] at e; cases e
  have fr₈ : ∀ {b : Addr}, h₈.get? b = none → h₁.get? b = none := fun {b} e => by
    cases q : h₁.get? b with
    | none => rfl
    | some o =>
      by_cases hb : b = 97
      · subst hb
        rw [nb _ _ (by rintro q; rw [← q, hP₁] at fns; cases fns) hPt] at e; cases e
      · rw [nb b o (fun z => by rw [z, fns] at q; cases q) (k₂ b o hb q)] at e; cases e
  have fg₀ : ∀ {b : Addr}, g₀.get? b = none → h₁.get? b = none := fun {b} e => fr₈ (by
    cases q : h₈.get? b with
    | none => rfl
    | some o =>
      by_cases b1 : b = nsA
      · rw [b1, gn₀] at e; cases e
      · by_cases b2 : b = PK
        · rw [b2, pk₀] at e; cases e
        · rw [nb₀ b o b1 b2 q] at e; cases e)
  have xa := fr₁ fa
  have xn := fr₁ fns'
  have xm := fr₁ fmd
  have xf0 := fr₈ fn₀
  have xc0 := fr₈ cn₀
  have xf1 := fg₀ fn₁
  have xc1 := fg₀ cn₁
  have cn : h₀.get? (L + 1) = none := Heap.get?_none_of_le (by rw [hLs]; exact Nat.le_succ _)
  have up' : ∀ b o, b ≠ L → h'.get? b = some o → h''.get? b = some o := fun b o hb e => hs''.extBut b o hb e
  have k97 : ∀ b o, b ≠ L → b ≠ 97 → h₁.get? b = some o → h''.get? b = some o := fun b o b1 b2 e => up' b o b1 (kl b o b2 e)
  have upg : ∀ b o, b ≠ L → g₈.get? b = some o → h''.get? b = some o := fun b o b1 e => up' b o b1 (K' b o e)
  have rec0 : g₈.CodeRec (.ref c₀) _ := rec_at cr₀ (fun o e => upg₀ _ _ nc₀.1 nc₀.2 e)
  have rec1 : g₈.CodeRec (.ref c₁) _ := rec_at cr₁ (fun o e => upg₁ _ _ nc₁.1 nc₁.2 e)
  have hcel : h''.IsCell (L + 1) (some (.ref lam)) := by
    obtain ⟨oc, ec, dc⟩ := hcl
    exact ⟨oc, k97 _ _ (by simp) (by rintro q; rw [← q] at hP; rw [hP] at cn; cases cn) ec, dc⟩
  have hK := (⟨up' _ _ (aL xa) ha', up' _ _ (aL xn) hns', up' _ _ (aL xm) hmd', rfl, rfl, upg _ _ (aL xf0) ff₀, rec_at rec0 (fun o e => upg _ _ (aL xc0) e), upg _ _ (aL xf1) ff₁, rec_at rec1 (fun o e => upg _ _ (aL xc1) e), hcel, rfl⟩ :
    KOk h'' lam ⟨a, ns, md, f₀, c₀, f₁, c₁, L + 1, hsF, tsF, vsF, ho, hd', to, td, tmd, n, Str.ofString "cmp_to_key.<locals>.K", _, _, _, _, _, _, _, _⟩)
  refine kq _ h'' _ ?_ hK ?_ ⟨_, up' _ _ (fun q => hL97 q.symm) (K' _ _ h97g)⟩
  · intro b m
    simp only [KParts.addrs, List.mem_cons, List.not_mem_nil, or_false] at m
    rcases m with rfl | rfl | rfl | rfl | rfl | rfl | rfl | rfl
    · exact stays_none k xa
    · exact stays_none k xn
    · exact stays_none k xm
    · exact stays_none k xf0
    · exact stays_none k xc0
    · exact stays_none k xf1
    · exact stays_none k xc1
    · exact cn
  · exact Ret.leave (X := [97]) hLs k (.of_ext fun b o hb e => k97 b o (fun q => hb (by simp [q])) (fun q => hb (by simp [q])) e)
end
end Mine
end

section
open PySem PySem.W PyProof.Rows
set_option maxRecDepth 100000
set_option maxHeartbeats 4000000
namespace Mine
open PySem PySem.Spec PySem.Calls PyProof.Rows PySem.W

noncomputable def fK (h : Heap) (p : KParts) : Frag := [p.a, p.ns, p.md, p.fi, p.fl].filterMap fun a => (h.get? a).map fun o => (a, o)
theorem fK_look {h : Heap} : ∀ {l : List Addr} {a : Addr}, a ∈ l → (l.filterMap fun a => (h.get? a).map fun o => (a, o)).lookup a = h.get? a
  | b :: l, a, m => by
    rw [List.filterMap_cons]
    cases e : h.get? b with
    | none =>
      simp only [Option.map_none]
      by_cases q : a = b
      · subst q
        rw [e]
        have : ∀ (l : List Addr), (l.filterMap fun a => (h.get? a).map fun o => (a, o)).lookup a = none := by
          intro l
          induction l with
          | nil => rfl
          | cons c l ih =>
            rw [List.filterMap_cons]
            cases e2 : h.get? c with
            | none => simpa using ih
            | some o =>
              simp only [Option.map_some, List.lookup_cons]
              have : (a == c) = false := by
                apply beq_false_of_ne
                rintro rfl; rw [e] at e2; cases e2
              rw [this]; exact ih
        exact this l
      · exact fK_look ((List.mem_cons.mp m).resolve_left q)
    | some o =>
      simp only [Option.map_some, List.lookup_cons]
      by_cases q : a = b
      · subst q; simp [e]
      · rw [beq_false_of_ne q]; exact fK_look ((List.mem_cons.mp m).resolve_left q)
theorem fK_in (h : Heap) (p : KParts) : (fK h p).In h := by
  intro a o e
  have go : ∀ (l : List Addr), (l.filterMap fun a => (h.get? a).map fun o => (a, o)).lookup a = some o → h.get? a = some o := by
    intro l
    induction l with
    | nil => intro e; cases e
    | cons b l ih =>
      intro e
      rw [List.filterMap_cons] at e
      cases e2 : h.get? b with
      | none => rw [e2] at e; simp only [Option.map_none] at e; exact ih e
      | some x =>
        rw [e2] at e
        simp only [Option.map_some, List.lookup_cons] at e
        by_cases q : a = b
        · subst q; simp at e; rw [← e]; exact e2
        · rw [beq_false_of_ne q] at e; exact ih e
  exact go _ e

noncomputable abbrev KParts.clsO (p : KParts) : Obj := clsObj { name := "K", bases := [.type "object"], mro := [.ref p.a, .type "object"], ns := p.ns, qualname := p.qual, hasDict := false, slotNames := ["obj"] } p.sl
noncomputable abbrev KParts.nsO (p : KParts) : Obj := dictOf (KF p.hs p.ts p.vs p.ho p.hd p.to p.td p.md) p.n
noncomputable abbrev KParts.fiO (p : KParts) : Obj := fnMade "__init__" p.qi (parOf initS) (stmtsOf initS) (scpOf initS) [] p.di p.pm p.ci p.ti
noncomputable abbrev KParts.flO (p : KParts) : Obj := fnMade "__lt__" p.ql (parOf ltS) (stmtsOf ltS) (scpOf ltS) [("mycmp", p.cell)] p.dl p.pm p.cl p.tl
section
variable {h : Heap} {lam : Addr} {p : KParts}
theorem fK_a (X : KOk h lam p) : (fK h p).lookup p.a = some p.clsO := (fK_look (by simp)).trans X.hcls
theorem fK_ns (X : KOk h lam p) : (fK h p).lookup p.ns = some p.nsO := (fK_look (by simp)).trans X.hns
theorem fK_md (X : KOk h lam p) : (fK h p).lookup p.md = some (mdObj p.a p.tmd) := (fK_look (by simp)).trans X.hmd
theorem fK_fi (X : KOk h lam p) : (fK h p).lookup p.fi = some p.fiO := (fK_look (by simp)).trans X.hfi
theorem fK_fl (X : KOk h lam p) : (fK h p).lookup p.fl = some p.flO := (fK_look (by simp)).trans X.hfl

theorem find_fK (X : KOk h lam p) {name : Str} {r ro : Option Value} (e : getL name (KF p.hs p.ts p.vs p.ho p.hd p.to p.td p.md) = some r) (eo : fastBuiltinOwn "object" name = ro) : findIn (fK h p) (.ref p.a) name = some (r.orElse fun _ => ro) := by
  unfold findIn
  dsimp only
  rw [fK_a X]
  dsimp only
  have n1 : ownIn (fK h p) name (.ref p.a) = some r := by
    unfold ownIn
    dsimp only
    rw [fK_a X]
    dsimp only
    unfold nsIn
    rw [fK_ns X]
    exact e
  have n2 : ownIn (fK h p) name (.type "object") = some ro := congrArg some eo
  unfold alongIn
  rw [n1]
  cases r with
  | some v => rfl
  | none =>
    dsimp only
    unfold alongIn
    rw [n2]
    cases ro with
    | some v => rfl
    | none => rfl
theorem cls_fK (X : KOk h lam p) : clsIn (fK h p) p.a = some { name := "K", bases := [.type "object"], mro := [.ref p.a, .type "object"], ns := p.ns, qualname := p.qual, hasDict := false, slotNames := ["obj"] } := by
  unfold clsIn; rw [fK_a X]
theorem typ_fK (X : KOk h lam p) : typeIn (fK h p) (.ref p.a) = some (.type "type") ∧ typeIn (fK h p) (.ref p.md) = some (.type "member_descriptor") ∧ typeIn (fK h p) (.ref p.fi) = some (.type "function") ∧ typeIn (fK h p) (.ref p.fl) = some (.type "function") := by
  unfold typeIn; dsimp only
  rw [fK_a X, fK_md X, fK_fi X, fK_fl X]
  exact ⟨rfl, rfl, rfl, rfl⟩
theorem mro_fK (X : KOk h lam p) (b : Value) : mroIn (fK h p) p.a b = some ([.ref p.a, .type "object"].contains b) := by
  unfold mroIn; rw [cls_fK X]; rfl
theorem makes_fK (X : KOk h lam p) : makesIn (fK h p) p.a = true := by
  unfold makesIn
  rw [fK_a X]
  dsimp only
  have h1 : specialIn (fK h p) (.ref p.a) (Str.ofString "__call__") = some (some (.builtin "type.__call__")) := by
    unfold specialIn; rw [(typ_fK X).1]; kernel_rfl
  have h2 : instIn (fK h p) (.ref p.a) (.type "type") = some true := by
    unfold instIn; rw [(typ_fK X).1]; kernel_rfl
  rw [h1, h2, X.sl4]
  simp
theorem init_fK (X : KOk h lam p) : findIn (fK h p) (.ref p.a) "__init__" = some (some (.ref p.fi)) := by
  rw [find_fK X (r := some (p.vs 4)) (by kernel_rfl) rfl, X.v4]; rfl
theorem lt_fK (X : KOk h lam p) : findIn (fK h p) (.ref p.a) "__lt__" = some (some (.ref p.fl)) := by
  rw [find_fK X (r := some (p.vs 5)) (by kernel_rfl) rfl, X.v5]; rfl
theorem ga_fK (X : KOk h lam p) : findIn (fK h p) (.ref p.a) "__getattribute__" = some (some (.builtin "object.__getattribute__")) :=
  find_fK X (r := none) (ro := some (.builtin "object.__getattribute__")) (by kernel_rfl) (by kernel_rfl)
theorem sa_fK (X : KOk h lam p) : findIn (fK h p) (.ref p.a) "__setattr__" = some (some (.builtin "object.__setattr__")) :=
  find_fK X (r := none) (ro := some (.builtin "object.__setattr__")) (by kernel_rfl) (by kernel_rfl)
theorem gattr_fK (X : KOk h lam p) : findIn (fK h p) (.ref p.a) "__getattr__" = some none := find_fK X (r := none) (ro := none) (by kernel_rfl) (by kernel_rfl)
theorem obj_fK (X : KOk h lam p) : findIn (fK h p) (.ref p.a) "obj" = some (some (.ref p.md)) := find_fK X (r := some (.ref p.md)) (by kernel_rfl) rfl
theorem take_fK (X : KOk h lam p) : takesIn (fK h p) (.ref p.md) = some true := by
  unfold takesIn
  have : specialIn (fK h p) (.ref p.md) (Str.ofString "__set__") = some (some (.builtin "member_descriptor.__set__")) := by
    unfold specialIn; rw [(typ_fK X).2.1]; kernel_rfl
  rw [this]
theorem taker_fK (X : KOk h lam p) : takerIn (fK h p) p.a "obj" = some (some (.ref p.md)) := by
  unfold takerIn
  rw [obj_fK X]
  show (takesIn (fK h p) (.ref p.md)).map _ = _
  rw [take_fK X]; rfl
theorem plain_fK (X : KOk h lam p) : plainOver (fK h p) p.a = true := by
  unfold plainOver; rw [cls_fK X]; rfl
theorem slot_fK (X : KOk h lam p) : slotIn (fK h p) p.md p.a = some 0 := by
  unfold slotIn recIn
  rw [fK_md X, cls_fK X]
  dsimp only
  rw [if_pos (show ("member_descriptor" == "member_descriptor") = true by simp)]
  dsimp only
  rw [if_pos (by simp)]
  rfl
theorem findobj_fK (X : KOk h lam p) : findObj (fK h p) p.a (some emptyDict) "obj" = some (.bind (.builtin "member_descriptor.__get__") (.ref p.md)) := by
  unfold findObj
  rw [cls_fK X, Option.bind_some, obj_fK X, Option.bind_some]
  dsimp only
  have : specialIn (fK h p) (.ref p.md) (Str.ofString "__get__") = some (some (.builtin "member_descriptor.__get__")) := by
    unfold specialIn; rw [(typ_fK X).2.1]; kernel_rfl
  rw [this, Option.bind_some]
  dsimp only
  rw [take_fK X, Option.bind_some]
end

section
variable {w : World} {mg mb : Str → Option Value} {hb : Heap} {prog : Program} {A : Around} {outer : List Env} {s : Shared} {E : Value → Shared → Prop}

/-- a function that stands in the heap is entered -/
theorem enterH {f : Addr} {args : List Value} {binds : List (Str × Value)} {oc : Value} {od : Option Addr} {osl : Array (Option Value)} {name qual : Str} {params : Arguments} {body : List Stmt} {scope : Scope} {cl : List (Str × Addr)} {dV kV doc pm cdv ct : Value} {an : Option Addr}
    {R : Result → Shared → Prop}
    (H : Bs w mg mb hb) (B : Below A hb outer s.heap) (hroom : A.depth < recursionLimit)
    (ho : s.heap.get? f = some ⟨oc, od, .func (fnX name qual params body scope cl dV kV doc pm an cdv ct), osl⟩)
    (hcd : s.heap.CodeRec cdv qual)
    (hbind : BindsTo s (fnX name qual params body scope cl dV kV doc pm an cdv ct) ⟨args, []⟩ binds) (hloc : ∀ y ∈ binds, scope.names.lookup y.1 = some .local)
    (hcell : ∀ x ∈ scope.names, x.2 ≠ .cell)
    (h : ∀ L h₁, L = s.heap.objs.size → h₁.Ns L (fun y => binds.reverse.lookup y) → s.heap.StaysIn h₁ → Below (A.deeper (envX qual scope L f cdv cl)) hb (envX qual scope L f cdv cl :: outer) h₁ →
      wpAny (model prog w) (A.deeper (envX qual scope L f cdv cl)) (execs body (envX qual scope L f cdv cl))
        (fun fl s' => R (.ok (.ret (match fl with | .ret v => v | _ => .none))) s')
        (fun e s' => wpAny (model prog w) (A.deeper (envX qual scope L f cdv cl)) (leaving (envX qual scope L f cdv cl) e) (fun _ s'' => R (.error e) s'') (fun e' s'' => R (.error e') s'') s')
        { s with heap := h₁, toks := s.toks + binds.length })
    (hco : scope.isCoroutine = false := by rfl) (hgen : scope.isGenerator = false := by rfl) (hk : scope.kind = .function := by rfl) :
    codeAny (model prog w) A (.call (.ref f) ⟨args, []⟩) R s := by
  refine codeAny_call_def (fd := fnX name qual params body scope cl dV kV doc pm an cdv ct) (body := body) (binds := binds) hroom ho rfl (H.lim.keeps B.stays) hcd rfl hbind hcell hloc (fun h₁ hns hk₁ => ?_) hco hgen hk
  exact h _ h₁ rfl hns hk₁ (below_push B rfl (by show scope.kind ≠ _; rw [hk]; decide) rfl hk₁ hns)

noncomputable abbrev kObj (a dx : Addr) (v : Value) : Obj := { cls := .ref a, dict := some dx, data := .plain, slots := #[some v] }

/-- K(v) -/
theorem K_make {lam : Addr} {p : KParts} {v : Value} {Q : Value → Shared → Prop} (H : Bs w mg mb hb) (B : Below A hb outer s.heap) (hd : A.depth + 1 < recursionLimit) (X : KOk s.heap lam p) (hp : ∀ b ∈ p.addrs, b ∉ fr outer)
    (k : ∀ x dx h' tk, s.heap.get? x = none → s.heap.get? dx = none → x ≠ dx → h'.get? x = some (kObj p.a dx v) → h'.get? dx = some emptyDict → s.heap.StaysIn h' → Q (.ref x) { s with heap := h', toks := tk }) :
    wpAny (model prog w) A (call (.ref p.a) [v]) Q E s := by
  obtain ⟨h, g, d, t, os⟩ := s
  refine wpAny_call (make_core (makes_of (fK_in h p) (makes_fK X)) (looks_findIn (fK_in h p) (init_fK X)) (fun self => bind_fn (fK_in h p) self (typ_fK X).2.2.1) (.inl rfl) ?_)
  have k₁ : h.StaysIn ((h.push emptyDict).push (instObj p.a h.objs.size)) := fun b o e => Heap.get?_push_of_some _ (Heap.get?_push_of_some _ e)
  have hx₁ : ((h.push emptyDict).push (instObj p.a h.objs.size)).get? (h.objs.size + 1) = some (instObj p.a h.objs.size) := by heap_get
  have hd₁ : ((h.push emptyDict).push (instObj p.a h.objs.size)).get? h.objs.size = some emptyDict := by heap_get
  have nx : h.get? (h.objs.size + 1) = none := Heap.get?_none_of_le (Nat.le_succ _)
  have nd : h.get? h.objs.size = none := Heap.get?_none_of_le (Nat.le_refl _)
  generalize ((h.push emptyDict).push (instObj p.a h.objs.size)) = h₁ at *
  generalize hxx : h.objs.size + 1 = x at *
  generalize hdq : h.objs.size = dx at *
  have X₁ : KOk h₁ lam p := X.at fun b _ o e => k₁ b o e
  refine enterH (outer := outer) (binds := [("self", .ref x), ("obj", v)]) H (below_at (below_kept B k₁) rfl) hd X₁.hfi X₁.hci (BindsTo.of_eq rfl) (locs rfl) (by decide +kernel) (fun L h₂ hL hn k₂ B₂ => ?_) rfl rfl rfl
  have k₀₂ : h.StaysIn h₂ := fun b o e => k₂ b o (k₁ b o e)
  have X₂ : KOk h₂ lam p := X.at fun b _ o e => k₀₂ b o e
  have hxL : x ≠ L := fun q => Nat.lt_irrefl _ (hL ▸ q ▸ Heap.lt_size hx₁)
  have hdx : dx ≠ x := by walk_at "o"
  refine wpXS ?_
  intro env₀ A₀ E₀ Q₀ s₀
  refine wpAny_execs_cons (plainObj_wpAny_Assign_Attribute (nL hn (by walk_at "m") (nL hn (by walk_at "m") ?_)))
  have I₂ : InstAt h₂ x (instObj p.a dx) p.a (some emptyDict) := ⟨k₂ _ _ hx₁, rfl, rfl, k₂ _ _ hd₁⟩
  refine ff_set (p := p.md) (i := 0) (v := v) (fK_in h₂ p) I₂ (sa_fK X₂) (plain_fK X₂) (taker_fK X₂) (typ_fK X₂).2.1 (slot_fK X₂) (by decide) ?_
  have hx₃ := Heap.get?_update_self (putSlot 0 v) (k₂ _ _ hx₁) rfl
  have s₃ : Heap.SameBut x h₂ (h₂.update x (putSlot 0 v)) := Heap.SameBut.update ..
  generalize (h₂.update x (putSlot 0 v)) = h₃ at *
  refine wpAny_execs_nil ⟨rfl, k x dx h₃ _ nx nd (Ne.symm hdx) hx₃ (s₃.extBut _ _ hdx (k₂ _ _ hd₁)) fun b o e => s₃.extBut b o (fun q => by rw [q, nx] at e; cases e) (k₀₂ b o e)⟩

/-- what the comparison is handed -/
noncomputable def Cmp2 (prog : Program) (w : World) (hb : Heap) (lam : Addr) (J : List Addr → Heap → Prop) (c : Int → Int → Int) (dep un : Nat) : Prop :=
  ∀ (A : Around) (outer : List Env) (s : Shared) (Q : Value → Shared → Prop) (E : Value → Shared → Prop) (n₁ n₂ : Int) (t₁ t₂ : Tok), Below A hb outer s.heap → A.depth + dep < recursionLimit → A.handled = none → A.units + un < cLine → J (fr outer) s.heap → 0 ≤ n₁ → n₁ < 6 → 0 ≤ n₂ → n₂ < 6 →
    (∀ h' tk t, Ret [] (fr outer) s.heap h' → Q (.int (c n₁ n₂) t) { s with heap := h', toks := tk }) → wpAny (model prog w) A (call (.ref lam) [.int n₁ t₁, .int n₂ t₂]) Q E s

theorem K_get {lam : Addr} {p : KParts} {x dx : Addr} {v : Value} {e : Bool} {Q : Value → Shared → Prop} (X : KOk s.heap lam p) (hx : s.heap.get? x = some (kObj p.a dx v)) (hdx : s.heap.get? dx = some emptyDict) (hh : handedIn v = true)
    (h : Q v { s with toks := s.toks + 1 }) : wpAny (model prog w) A (getAttr (.ref x) "obj" e) Q E s := by
  have I : InstAt s.heap x (kObj p.a dx v) p.a (some emptyDict) := ⟨hx, rfl, rfl, hdx⟩
  exact get_bind (fK_in _ p) I (ga_fK X) (findobj_fK X) (gattr_fK X) (wpAny_call (slot_get (s := { s with toks := s.toks + 1 }) (fK_in _ p) I (slot_fK X) rfl (handed_on hh h)))

/-- x < y of two of K -/
theorem K_lt {lam : Addr} {p : KParts} {J : List Addr → Heap → Prop} {c : Int → Int → Int} {dep un : Nat} {x dx y dy : Addr} {n₁ n₂ : Int} {t₁ t₂ : Tok} {Q : Bool → Shared → Prop} (H : Bs w mg mb hb) (B : Below A hb outer s.heap) (hd : A.depth + (dep + 1) < recursionLimit) (hh : A.handled = none) (hu : A.units + (un + 10) < cLine)
    (X : KOk s.heap lam p) (hp : ∀ b ∈ p.addrs, b ∉ fr outer) (hlam : Ex2 fun o fd => s.heap.get? lam = some o ∧ o.data = .func fd) (C : Cmp2 prog w hb lam J c dep un) (hJ : J (fr outer) s.heap) (hJm : ∀ fs h h' L, J fs h → h.get? L = none → h.StaysIn h' → J (L :: fs) h')
    (hx : s.heap.get? x = some (kObj p.a dx (.int n₁ t₁))) (hdx : s.heap.get? dx = some emptyDict) (hy : s.heap.get? y = some (kObj p.a dy (.int n₂ t₂))) (hdy : s.heap.get? dy = some emptyDict) (b1 : 0 ≤ n₁) (b2 : n₁ < 6) (b3 : 0 ≤ n₂) (b4 : n₂ < 6)
    (k : ∀ h' tk, Ret [] (fr outer) s.heap h' → Q (decide (c n₁ n₂ < 0)) { s with heap := h', toks := tk }) :
    wpAny (model prog w) A (keyLt' oneType' (.ref x) (.ref y)) Q E s := by
  have I : InstAt s.heap x (kObj p.a dx (.int n₁ t₁)) p.a (some emptyDict) := ⟨hx, rfl, rfl, hdx⟩
  rw [keyLt'_oneType, oneLt'_eq]
  simp only [if_true]
  refine wpAny_bind (wpAny_cRoomFor (by walk_at "o") ?_)
  refine wpAny_bind (ifBound_K (fK_in _ p) I (lt_fK X) ?_ ?_)
  · unfold isFn; rw [(typ_fK X).2.2.2]; simp
  refine wpAny_call (enterH (outer := outer) (binds := [("self", .ref x), ("other", .ref y)]) H B (by walk_at "o") X.hfl X.hcl (BindsTo.of_eq rfl) (locs rfl) (by decide +kernel) (fun L h₂ hL hn k₂ B₂ => ?_) rfl rfl rfl)
  have X₂ : KOk h₂ lam p := X.at fun b _ o e => k₂ b o e
  have hLn : s.heap.get? L = none := Heap.get?_none_of_le (by rw [hL]; exact Nat.le_refl _)
  obtain ⟨ol, fl, hol, hfl⟩ := hlam
  refine wpXS ?_
  intro env₀ A₀ E₀ Q₀ s₀
  refine wpAny_execs_cons (wpAny_Return_some (wpAny_Compare1 (Call_of rfl (gF (c := p.cell) rfl X₂.hcell (sp1 (Attr_of (nL hn (by walk_at "m") (K_get X₂ (k₂ _ _ hx) (k₂ _ _ hdx) rfl (sp1 (Attr_of (nL hn (by walk_at "m") (K_get X₂ (k₂ _ _ hy) (k₂ _ _ hdy) rfl (sp0 ⟨keeps_func (k₂ _ _ hol) hfl, ?_⟩)))))))))))))
  refine C _ (_ :: outer) _ _ _ _ _ _ _ B₂ (by show A.depth + 1 + dep < _; walk_at "o") hh (by show A.units + 3 + un < _; walk_at "o") (by rw [fr_cons rfl]; exact hJm _ _ _ _ hJ hLn k₂) b1 b2 b3 b4 fun h' tk t r => wpAny_Constant_int (lt_int ?_)
  refine wpAny_truthy_bool (k h' _ (Ret.leave (X := []) hL k₂ (r.wide (by simp))))
end
end Mine
end

section
open PySem PySem.W PyProof.Rows
set_option maxRecDepth 100000
set_option maxHeartbeats 4000000
namespace Mine
open PySem PySem.Spec PySem.Calls PyProof.Rows PySem.W

noncomputable def kev {α : Type} (lt : Nat → Nat → Bool) : KasT α → α
  | .ret a => a
  | .ask i j k => kev lt (k (lt i j))
noncomputable def kok {α : Type} (lt : Nat → Nat → Bool) (n : Nat) : KasT α → Bool
  | .ret _ => true
  | .ask i j k => decide (i < n) && decide (j < n) && kok lt n (k (lt i j))
theorem kas_ev {α : Type} {lt : Nat → Nat → Bool} {n : Nat} {cmp : Nat → Nat → (Bool → Shared → Prop) → Shared → Prop} {Good : Shared → Prop}
    (hc : ∀ i j C s, i < n → j < n → Good s → (∀ s', Good s' → C (lt i j) s') → cmp i j C s) :
    ∀ (t : KasT α) (Q : α → Shared → Prop) (s : Shared), kok lt n t = true → Good s → (∀ s', Good s' → Q (kev lt t) s') → t.kasWp cmp Q s
  | .ret a, Q, s, _, g, q => q s g
  | .ask i j k, Q, s, e, g, q => by
    simp only [kok, Bool.and_eq_true, decide_eq_true_eq] at e
    exact hc i j _ s e.1.1 e.1.2 g fun s' g' => kas_ev hc (k (lt i j)) Q s' e.2 g' q

section
variable {prog : Program} {w : World} {A : Around} {E : Value → Shared → Prop} {s : Shared}

theorem sort_tree {a : Addr} {f : Value} {vs : List Value} {n : Nat} {fs : List Addr} {P : PySem.Fin → Shared → Prop}
    (ho : s.heap.get? a = some { cls := .type "list", data := .seq vs.toArray n }) (haf : a ∉ fs) (hfs : ∀ b ∈ fs, ∃ o, s.heap.get? b = some o) (h64 : vs.length < 64)
    (KP : List Addr → Nat → Value → Heap → Prop)
    (st1 : ∀ av i k h h', KP av i k h → (∀ b o, b ∉ av → h.get? b = some o → h'.get? b = some o) → KP av i k h')
    (st2 : ∀ av i k h h', KP av i k h → Ret [] fs h h' → KP av i k h')
    (key : ∀ av i v h tk, vs[i]? = some v → a ∈ av → (∀ b ∈ av, ∃ o, h.get? b = some o) → Ret [a] fs s.heap h →
      wpAny (model prog w) A (call f [v]) (fun k s' => Ex2 fun h' tk' => s' = { s with heap := h', toks := tk' } ∧ Ret [] fs h h' ∧ KP av i k h') (fun _ _ => False) { s with heap := h, toks := tk })
    (Out : List Value → Prop) (small : vs.length < 2 → Out vs)
    (run : 2 ≤ vs.length → ∀ av (ks : List Value) h tk, ks.length = vs.length → (∀ (i : Nat) (k : Value), ks[i]? = some k → KP av i k h) → Ret [a] fs s.heap h →
      wpAny (model prog w) A (keyKind' ks.toArray) (fun κ s₁ => wpAny (model prog w) A ((sortRuns').run (SortSt.mk' κ (ks.toArray.zip vs.toArray) #[] 7 none))
        (fun r s' => Ex2 fun h' tk' => s' = { s with heap := h', toks := tk' } ∧ Ret [] fs h h' ∧ failedOf r.2 = none ∧ ∃ out : List Value, (arrOf r.2).map (·.2) = List.toArray out ∧ out.length = vs.length ∧ Out out) (fun _ _ => False) s₁) (fun _ _ => False) { s with heap := h, toks := tk })
    (fin : ∀ h' tk out, LS h' a out → Out out → Ret [a] fs s.heap h' → P (.done (.ret .none)) { s with heap := h', toks := tk }) :
    wpAny (model prog w) A (ksk_tree a f false) P E s := by
  obtain ⟨h, g, d, t, os⟩ := s
  dsimp only at ho hfs key run fin
  have s1 := Heap.SameBut.update h a (Obj.mapSeq fun _ => (#[] : Array Value))
  obtain ⟨e1, ho1⟩ : ∃ e1, (h.update a (Obj.mapSeq fun _ => (#[] : Array Value))).get? a = some (seqObj "list" #[] e1) := ⟨_, get?_update_seq ho fun _ => #[]⟩
  unfold ksk_tree
  refine wpAny_bind (listItems_at ho rfl ?_)
  refine wpAny_bind (listUpdate_at ho rfl ?_ (by rw [List.size_toArray, sizeLine_eq]; walk_at "o") (Nat.zero_le _))
  refine wpAny_bind (seqEpoch_at ho1 rfl ?_)
  show wpAny _ _ _ _ _ ⟨h.update a (Obj.mapSeq fun _ => (#[] : Array Value)), g, d, t, os⟩
  generalize (h.update a (Obj.mapSeq fun _ => (#[] : Array Value))) = h₁ at *
  unfold newTuple newList
  refine wpAny_bind (nobj (by show vs.toArray.size ≤ sizeLine; rw [List.size_toArray, sizeLine_eq]; walk_at "o") (fun T h₂ hTn hT k₂ => ?_) rfl)
  refine wpAny_bind (nobj (Nat.zero_le _) (fun kS h₃ hSn hS k₃ => ?_) rfl)
  refine wpAny_holding ?_
  have ho3 := k₃ _ _ (k₂ _ _ ho1)
  have hka : kS ≠ a := by rintro rfl; rw [k₂ _ _ ho1] at hSn; cases hSn
  have kSf : kS ∉ fs := fun m => by
    obtain ⟨o, e⟩ := hfs kS m
    by_cases q : kS = a
    · exact hka q
    · rw [k₂ _ _ (s1.extBut kS o q e)] at hSn; cases hSn
  have kSn : h.get? kS = none := by
    cases q : h.get? kS with
    | none => rfl
    | some o => rw [k₂ _ _ (s1.extBut kS o hka q)] at hSn; cases hSn
  have R₃ : Ret [a] fs h h₃ := (Ret.of_but s1.extBut (by simp)).trans (.of_stays fun b o e => k₃ _ _ (k₂ _ _ e))
  unfold ksk_rest
  refine wpAny_bind (wpAny_rule ?_)
  first
    | rw [List.forIn_toArray]
    | rw [← Array.forIn_toList]
  refine wpAny_bind (ksk_fold (fun i s' => Ex4 fun (ks : List Value) (h' : Heap) (tk e : Nat) => s' = ⟨h', g, d, tk, os⟩ ∧ ks.length = i ∧ (∀ (j : Nat) (k : Value), ks[j]? = some k → KP [a, kS] j k h') ∧ h'.get? kS = some (seqObj "list" ks.toArray e) ∧ h'.get? a = some (seqObj "list" #[] e1) ∧ Ret [a] fs h h') vs 0 _
    ⟨[], h₃, t, 0, rfl, rfl, by simp, hS, ho3, R₃⟩ ?step ?done)
  case step =>
    rintro j x s' hx ⟨ks, h', tk, e, rfl, hkl, hkp, hS', ha', R'⟩
    simp only [Nat.zero_add] at hkl ⊢
    have hj : j < vs.length := (List.getElem?_eq_some_iff.mp hx).1
    have hx' := key [a, kS] j x h' tk hx (by simp) (by intro b m; simp at m; rcases m with rfl | rfl; exact ⟨_, ha'⟩; exact ⟨_, hS'⟩) R'
    refine wpAny_bind (wpAny_attempt (wpAny_mono hx' (fun v s'' he => ?_) fun _ _ hF => hF.elim))
    obtain ⟨h₅, tk₅, rfl, r₅, hk₅⟩ := he
    dsimp only
    have hS₅ := r₅.keep kS _ (by simp) kSf hS'
    have ha₅ := r₅.keep a _ (by simp) haf ha'
    have s5 := Heap.SameBut.update h₅ kS (Obj.mapSeq (·.push v))
    obtain ⟨c2, hc2⟩ : ∃ c2, (h₅.update kS (Obj.mapSeq (·.push v))).get? kS = some (seqObj "list" (ks.toArray.push v) c2) := ⟨_, get?_update_seq hS₅ (·.push v)⟩
    refine wpAny_bind (listUpdate_at hS₅ rfl ?_ (by rw [List.size_toArray, sizeLine_eq]; walk_at "o") (Nat.le_trans (Nat.le_of_eq (Array.size_push ..)) (by rw [List.size_toArray, sizeLine_eq]; walk_at "o")))
    refine wpAny_pure ⟨rfl, ks ++ [v], _, tk₅, c2, rfl, by simp [hkl], fun j' k' e' => ?_, by rw [hc2]; simp, s5.extBut a _ hka.symm ha₅, ?_⟩
    · have hst : ∀ b o, b ∉ [a, kS] → h₅.get? b = some o → (h₅.update kS (Obj.mapSeq (·.push v))).get? b = some o := fun b o nb e => s5.extBut b o (fun q => nb (by simp [q])) e
      rcases Nat.lt_trichotomy j' ks.length with z | z | z
      · rw [List.getElem?_append_left z] at e'
        exact st1 _ _ _ _ _ (st2 _ _ _ _ _ (hkp j' k' e') r₅) hst
      · subst z
        simp at e'; subst e'
        rw [hkl]
        exact st1 _ _ _ _ _ hk₅ hst
      · rw [List.getElem?_eq_none (by simp; walk_at "o")] at e'; cases e'
    · exact (((R'.wide (Y := [a, kS]) (by simp)).trans (r₅.wide (by simp))).trans (.of_but (X := [a, kS]) s5.extBut (by simp))).less (by intro b m; simp at m; rcases m with rfl | rfl; exact .inl (by simp); exact .inr kSn)
  case done =>
    rintro s' ⟨ks, h', tk, e, rfl, hkl, hkp, hS', ha', R'⟩
    simp only [Nat.zero_add] at hkl
    refine wpAny_bind (listItems_at hS' rfl ?_)
    -- the tail
    have tail : ∀ (h₆ : Heap) (tk₆ : Nat) (st : SortSt) (out : List Value), Ret [] fs h' h₆ → (arrOf st).map (·.2) = List.toArray out → out.length = vs.length → failedOf st = none → Out out →
        wpAny (model prog w) A (ksk_tail a false e1 (.ref kS) st) P E ⟨h₆, g, d, tk₆, os⟩ := by
      intro h₆ tk₆ st out r₆ hout hol hf hO
      have hS₆ := r₆.keep kS _ (by simp) kSf hS'
      have ha₆ := r₆.keep a _ (by simp) haf ha'
      have s6 := Heap.SameBut.update h₆ kS (Obj.mapSeq fun _ => (#[] : Array Value))
      have s7 := Heap.SameBut.update (h₆.update kS (Obj.mapSeq fun _ => (#[] : Array Value))) a (Obj.mapSeq fun _ => List.toArray out)
      have ha₇ := s6.extBut a _ hka.symm ha₆
      obtain ⟨c2, hc2⟩ : ∃ c2, ((h₆.update kS (Obj.mapSeq fun _ => (#[] : Array Value))).update a (Obj.mapSeq fun _ => List.toArray out)).get? a = some (seqObj "list" (List.toArray out) c2) := ⟨_, get?_update_seq ha₇ fun _ => List.toArray out⟩
      unfold ksk_tail
      dsimp only
      rw [hout]
      simp only [Bool.false_eq_true, if_false]
      refine wpAny_bind (listUpdate_at hS₆ rfl ?_ (by rw [List.size_toArray, sizeLine_eq]; walk_at "o") (Nat.zero_le _))
      refine wpAny_bind (wpAny_letGo ?_)
      refine wpAny_bind (seqEpoch_at ha₇ rfl ?_)
      refine wpAny_bind (listUpdate_at ha₇ rfl ?_ (Nat.zero_le _) (by show (List.toArray out).size ≤ _; rw [List.size_toArray, sizeLine_eq]; walk_at "o"))
      rw [hf]
      simp only [bne_self_eq_false, Bool.false_eq_true, if_false]
      refine wpAny_pure (fin _ _ out ⟨_, hc2⟩ hO ?_)
      have r7 : Ret [a, kS] fs h _ := ((R'.wide (Y := [a, kS]) (by simp)).trans (r₆.wide (by simp))).trans ((Ret.of_but (X := [a, kS]) s6.extBut (by simp)).trans (.of_but (X := [a, kS]) s7.extBut (by simp)))
      exact r7.less (by intro b m; simp at m; rcases m with rfl | rfl; exact .inl (by simp); exact .inr kSn)
    unfold ksk_end
    dsimp only
    rw [if_neg (by decide)]
    by_cases h2 : vs.toArray.size < 2
    · rw [if_pos h2, if_pos h2]
      refine wpAny_bind (wpAny_pure ?_)
      rw [StateT.run_pure]
      refine wpAny_bind (wpAny_pure ?_)
      refine tail h' tk _ vs .refl ?_ rfl rfl (small (by simpa using h2))
      show ((ks.toArray.zip vs.toArray)).map (·.2) = _
      apply Array.toList_inj.mp
      rw [Array.toList_map, ksk_zip]
      dsimp only
      rw [List.map_snd_zip (by walk_at "o")]
    · rw [if_neg h2, if_neg h2]
      refine wpAny_bind (wpAny_mono (run (by simpa using h2) [a, kS] ks h' tk hkl hkp R') (fun κ s₁ h₁' => ?_) fun _ _ z => z.elim)
      refine wpAny_bind (wpAny_mono h₁' (fun r s₂ h₂' => ?_) fun _ _ z => z.elim)
      obtain ⟨h₆, tk₆, rfl, r₆, hf, out, ho1', hol, hO⟩ := h₂'
      obtain ⟨⟨⟩, st⟩ := r
      exact tail h₆ tk₆ st out r₆ ho1' hol hf hO
end
end Mine
end

section
open PySem PySem.W PyProof.Rows
set_option maxRecDepth 100000
set_option maxHeartbeats 4000000
namespace Mine
open PySem PySem.Spec PySem.Calls PyProof.Rows PySem.W

section
variable {prog : Program} {w : World} {A : Around} {E : Value → Shared → Prop} {s : Shared}

theorem sorted_key {src : Value} {q : Addr} {V : List Value → Prop} {fs : List Addr} {Q : Value → Shared → Prop}
    (hfs : ∀ b ∈ fs, ∃ o, s.heap.get? b = some o) (h64 : ∀ vs, V vs → vs.length < 64)
    (coll : ∀ (A' : Around) (Q' : List Value → Shared → Prop) (E' : Value → Shared → Prop), A'.handled = A.handled → (∀ vs h₁ tk₁, V vs → s.heap.StaysIn h₁ → Q' vs { s with heap := h₁, toks := tk₁ }) → wpAny (model prog w) A' (collect src) Q' E' s)
    (KP : List Addr → Nat → Value → Heap → Prop)
    (st1 : ∀ av i k h h', KP av i k h → (∀ b o, b ∉ av → h.get? b = some o → h'.get? b = some o) → KP av i k h')
    (st2 : ∀ av i k h h', KP av i k h → Ret [] fs h h' → KP av i k h')
    (key : ∀ vs av i v h tk, V vs → vs[i]? = some v → (∀ b ∈ av, ∃ o, h.get? b = some o) → Ret [] fs s.heap h →
      wpAny (model prog w) A.in1.in1 (call (.ref q) [v]) (fun k s' => Ex2 fun h' tk' => s' = { s with heap := h', toks := tk' } ∧ Ret [] fs h h' ∧ KP av i k h') (fun _ _ => False) { s with heap := h, toks := tk })
    (Out : List Value → List Value → Prop) (small : ∀ vs, V vs → vs.length < 2 → Out vs vs)
    (run : ∀ vs, V vs → 2 ≤ vs.length → ∀ av (ks : List Value) h tk, ks.length = vs.length → (∀ (i : Nat) (k : Value), ks[i]? = some k → KP av i k h) → Ret [] fs s.heap h →
      wpAny (model prog w) A.in1.in1 (keyKind' ks.toArray) (fun κ s₁ => wpAny (model prog w) A.in1.in1 ((sortRuns').run (SortSt.mk' κ (ks.toArray.zip vs.toArray) #[] 7 none))
        (fun r s' => Ex2 fun h' tk' => s' = { s with heap := h', toks := tk' } ∧ Ret [] fs h h' ∧ failedOf r.2 = none ∧ ∃ out : List Value, (arrOf r.2).map (·.2) = List.toArray out ∧ out.length = vs.length ∧ Out vs out) (fun _ _ => False) s₁) (fun _ _ => False) { s with heap := h, toks := tk })
    (fin : ∀ D h' tk vs out, V vs → s.heap.get? D = none → LS h' D out → Out vs out → Ret [] fs s.heap h' → Q (.ref D) { s with heap := h', toks := tk }) :
    wpAny (model prog w) A (call (.builtin "sorted") [src] [(Str.ofString "key", .ref q)]) Q E s := by
  refine call_function_entry_kw kind_sorted plain_sorted entry_sorted (ksk_s1 _ _) ?_
  unfold Builtin.«sorted»
  refine wpAny_bind (m := checkCount "sorted" 1 1 _) (wpAny_pure ?_)
  refine wpAny_bind (coll _ _ _ rfl fun vs h₁ tk₁ hV k₁ => ?_)
  unfold newList
  obtain ⟨h, g, d, t, os⟩ := s
  dsimp only at *
  refine wpAny_bind (nobj (by show vs.toArray.size ≤ sizeLine; have := h64 vs hV; rw [List.size_toArray, sizeLine_eq]; walk_at "o") (fun D h₂ hDn hD k₂ => ?_) rfl)
  have Dn : h.get? D = none := stays_none k₁ hDn
  have hDf : D ∉ fs := fun m => by obtain ⟨o, e⟩ := hfs D m; rw [Dn] at e; cases e
  have back : ∀ {h' : Heap}, Ret [D] fs h₂ h' → Ret [] fs h h' := fun r => ((Ret.of_stays fun b o e => k₂ _ _ (k₁ _ _ e)).trans r).less (by intro b m; simp at m; subst m; exact .inr Dn)
  refine wpAny_bind (wpAny_holding (wpAny_call_entry_kw slot_list_sort ⟨_, hD, rfl⟩ entry_list_sort ?body (ksk_l1 _ _)))
  case body =>
    show wpAny (model prog w) A.in1.in1 (Builtin.«list.sort» ⟨[.ref D], [(Str.ofString "key", .ref q)]⟩) _ _ _
    rw [ksk_t1]
    refine sort_tree (s := ⟨h₂, g, d, tk₁, os⟩) hD hDf (fun b m => by obtain ⟨o, e⟩ := hfs b m; exact ⟨o, k₂ _ _ (k₁ _ _ e)⟩) (h64 vs hV) KP st1 st2
      (fun av i v h' tk hv _ hav r => key vs av i v h' tk hV hv hav (back r)) (Out vs) (small vs hV) (fun h2 av ks h' tk e1 e2 r => run vs hV h2 av ks h' tk e1 e2 (back r)) fun h' tk out hl hO r => ?_
    exact ⟨_, rfl, wpAny_pure ⟨_, rfl, fin D h' tk vs out hV Dn hl hO (back r)⟩⟩

theorem collect_ls {l : Addr} {vs : List Value} {Q : List Value → Shared → Prop} (hl : LS s.heap l vs) (hz : vs.length ≤ 1000) (h : ∀ h₁ tk₁, s.heap.StaysIn h₁ → Q vs { s with heap := h₁, toks := tk₁ }) : wpAny (model prog w) A (collect (.ref l)) Q E s := by
  refine collect_list hl.il (h _ s.toks fun b o e => ?_) (by rw [sizeLine_eq]; walk_at "o")
  have hlt : b < s.heap.objs.size := Heap.lt_size e
  rw [Heap.get?_update_ne _ _ _ _ (Nat.ne_of_lt hlt), Heap.get?_push_ne _ _ _ (Nat.ne_of_lt hlt)]
  exact e

theorem collect_rg {r : Addr} {a b : Int} {t u v : Tok} {n : Nat} {Q : List Value → Shared → Prop} (hh : A.handled = none) (hr : IsRange s.heap r a b 1 t u v) (hsmall : Builtin.Range.small a b 1 = true) (hn : Builtin.Range.rangeSize a b 1 = n) (hlen : n ≤ 2 ^ 24)
    (h : ∀ vs h₁ tk₁, IntsAre vs ((List.range n).map fun (i : Nat) => a + (i : Int)) → s.heap.StaysIn h₁ → Q vs { s with heap := h₁, toks := tk₁ }) : wpAny (model prog w) A (collect (.ref r)) Q E s := by
  unfold collect
  refine wpAny_bind (wpAny_runValue (codeAny_builtin entry_proto_collect' ?_))
  rw [Around.under_plainId F.plain_proto_collect _]
  show wpAny _ A.in1 (newList [] >>= fun l => again (.builtin "list.__iadd__" ⟨[l, .ref r], []⟩)) _ _ s
  refine wpAny_bind (wpAny_newObj_type ?_)
  refine wpAny_pure ⟨plainId_quiet F.plain_list_iadd _, codeAny_builtin F.entry_list_iadd ?_⟩
  rw [Around.under_plainId F.plain_list_iadd _]
  show wpAny _ A.in1 (Builtin.List.listExtendWith (.ref s.heap.objs.size) (.ref r) (.ref s.heap.objs.size)) _ _ { s with heap := s.heap.push { cls := .type "list", data := .seq #[] } }
  refine wpAny_extend_range (s := { s with heap := s.heap.push { cls := .type "list", data := .seq #[] } }) (R := fun r s' => match r with
    | .ok (.ret v) => wpAny (model prog w) A (match v with
      | .ref a => do
        match (← load a).data with
        | .seq xs _ => pure xs.toList
        | _ => unsupported "internal:collect"
      | _ => unsupported "internal:collect") Q E s'
    | .ok _ => False
    | .error e => E e s') hh (Heap.get?_push_of_some _ hr) hsmall hn hlen s.heap.objs.size (.ref s.heap.objs.size) 0 (Heap.get?_push_size _ rfl) fun h' tk acc' c' hk hS hacc => ?_
  show wpAny _ A (load s.heap.objs.size >>= _) _ _ _
  refine wpAny_bind (wpAny_load hS ?_)
  exact wpAny_pure (h acc'.toList h' tk (ints_of (f := fun (i : Nat) => a + (i : Int)) hacc.1 fun i v q => by simpa using hacc.2 i v (by simpa using q)) fun b o e => hk b o (Nat.ne_of_lt (Heap.lt_size e)) (Heap.get?_push_of_some _ e))
end
end Mine
end

section
open PySem PySem.W PyProof.Rows
set_option maxRecDepth 100000
set_option maxHeartbeats 4000000
namespace Mine
open PySem PySem.Spec PySem.Calls PyProof.Rows PySem.W

theorem KOk.ret {fs : List Addr} {h h' : Heap} {lam : Addr} {p : KParts} (x : KOk h lam p) (r : Ret [] fs h h') (hp : ∀ b ∈ p.addrs, b ∉ fs) : KOk h' lam p := x.at fun b m o e => r.keep b o (by simp) (hp b m) e

section
variable {w : World} {mg mb : Str → Option Value} {hb : Heap} {prog : Program} {A : Around} {outer : List Env} {s : Shared} {E : Value → Shared → Prop}

/-- sorted(range(6), key=K) -/
theorem sortK_fn {lam r : Addr} {t₁ t₂ t₃ : Tok} {p : KParts} {J : List Addr → Heap → Prop} {c : Int → Int → Int} {dep un : Nat} {Q : Value → Shared → Prop} (H : Bs w mg mb hb) (B : Below A hb outer s.heap) (hd : A.depth + (dep + 2) < recursionLimit) (hh : A.handled = none) (hu : A.units + (un + 20) < cLine)
    (X : KOk s.heap lam p) (hp : ∀ b ∈ p.addrs, b ∉ fr outer) (hlam : Ex2 fun o fd => s.heap.get? lam = some o ∧ o.data = .func fd) (hlf : lam ∉ fr outer) (C : Cmp2 prog w hb lam J c dep un) (hJ : J (fr outer) s.heap) (hJr : ∀ fs h h', J fs h → Ret [] fs h h' → J fs h') (hJm : ∀ fs h h' L, J fs h → h.get? L = none → h.StaysIn h' → J (L :: fs) h')
    (hr : IsRange s.heap r 0 6 1 t₁ t₂ t₃) (hok : kok (fun i j => decide (c i j < 0)) 6 (kas_sort 6) = true)
    (hin : ∀ i ∈ (kev (fun i j => decide (c i j < 0)) (kas_sort 6)).toList, i < 6)
    (k : ∀ D h' tk, s.heap.get? D = none → IL (fr outer) h' D ((kev (fun i j => decide (c i j < 0)) (kas_sort 6)).toList.map fun i => ((i : Nat) : Int)) → Ret [] (fr outer) s.heap h' → Q (.ref D) { s with heap := h', toks := tk }) :
    wpAny (model prog w) A (call (.builtin "sorted") [.ref r] [(Str.ofString "key", .ref p.a)]) Q E s := by
  have hsm : Builtin.Range.small 0 6 1 = true := rsmall (n := 6) (by decide)
  have hfs : ∀ b ∈ fr outer, ∃ o, s.heap.get? b = some o := fun b m => by obtain ⟨_, o, e, _⟩ := fr_there B.frames m; exact ⟨o, e⟩
  refine sorted_key (V := fun vs => IntsAre vs ((List.range 6).map fun (i : Nat) => 0 + (i : Int))) hfs (fun vs hV => by rw [hV.length]; simp) (fun A' Q' E' hA' hQ' => collect_rg (n := 6) (hA'.trans hh) hr hsm rsize (by decide) fun vs h₁ tk₁ hV k₁ => hQ' vs h₁ tk₁ hV k₁)
    (fun av i k h => Ex3 fun x dx t => k = .ref x ∧ h.get? x = some (kObj p.a dx (.int (i : Int) t)) ∧ h.get? dx = some emptyDict ∧ x ∉ av ∧ dx ∉ av ∧ x ∉ fr outer ∧ dx ∉ fr outer ∧ i < 6)
    ?_ ?_ ?_ (fun vs out => out = (kev (fun i j => decide (c i j < 0)) (kas_sort 6)).toList.map fun i => vs.getD i .none) (fun vs hV h2 => by rw [hV.length] at h2; simp at h2) ?_ ?_
  · rintro av i k h h' ⟨x, dx, t, rfl, e1, e2, n1, n2, n3, n4, n5⟩ kk
    exact ⟨x, dx, t, rfl, kk _ _ n1 e1, kk _ _ n2 e2, n1, n2, n3, n4, n5⟩
  · rintro av i k h h' ⟨x, dx, t, rfl, e1, e2, n1, n2, n3, n4, n5⟩ r
    exact ⟨x, dx, t, rfl, r.keep _ _ (by simp) n3 e1, r.keep _ _ (by simp) n4 e2, n1, n2, n3, n4, n5⟩
  · intro vs av i v h tk hV hv hav r'
    obtain ⟨n, t, rfl, hn⟩ := ints_at hV hv
    have hi6 : i < 6 := by
      have := (List.getElem?_eq_some_iff.mp hv).1
      rw [hV.length] at this; simpa using this
    have hn' : n = (i : Int) := by
      rw [List.getElem?_map, List.getElem?_range hi6] at hn
      simp at hn; exact hn.symm
    subst hn'
    have B' := below_ret B r'
    refine K_make (s := { s with heap := h, toks := tk }) H (below_at B' rfl) (by show A.depth + 1 < _; walk_at "o") (X.ret r' hp) hp fun x dx h₂ tk₂ xn dn xd hx hdx k₂ => ⟨h₂, tk₂, rfl, .of_stays k₂, x, dx, t, rfl, hx, hdx, ?_, ?_, fresh_notin B'.frames xn, fresh_notin B'.frames dn, hi6⟩
    · intro m; obtain ⟨o, e⟩ := hav _ m; rw [xn] at e; cases e
    · intro m; obtain ⟨o, e⟩ := hav _ m; rw [dn] at e; cases e
  · intro vs hV h2 av ks h tk hkl hkp r'
    have hl6 : vs.length = 6 := by rw [hV.length]; simp
    refine kas_kind (T := .ref p.a) (by walk_at "o") (fun v hv => ?_) (by simp) (by simp) ?_
    · obtain ⟨i, hi, e⟩ := List.getElem_of_mem hv
      obtain ⟨x, dx, t, rfl, e1, _⟩ := hkp i v (by rw [List.getElem?_eq_getElem hi, e])
      exact (Looks.ld e1).andThen .now
    · have hle : (kas_sort vs.length) = kas_sort 6 := by rw [hl6]
      refine kat_run (Q := fun st s' => Ex2 fun h' tk' => s' = { s with heap := h', toks := tk' } ∧ Ret [] (fr outer) h h' ∧ failedOf st = none ∧ ∃ out : List Value, (arrOf st).map (·.2) = List.toArray out ∧ out.length = vs.length ∧ out = (kev (fun i j => decide (c i j < 0)) (kas_sort 6)).toList.map fun i => vs.getD i .none)
        (G := fun p' s' => p' = kev (fun i j => decide (c i j < 0)) (kas_sort 6) ∧ Ex2 fun h' tk' => s' = { s with heap := h', toks := tk' } ∧ Ret [] (fr outer) h h') hkl (by walk_at "o") (by walk_at "o") ?_ ?_
      · rintro p' st' s' hp' har hf ⟨rfl, h', tk', rfl, rr⟩
        exact ⟨h', tk', rfl, rr, hf, _, kat_snds hkl har, by rw [List.length_map, Array.length_toList, hp'], rfl⟩
      · rw [hl6]
        refine kas_ev (lt := fun i j => decide (c i j < 0)) (n := 6) (Good := fun s' => Ex2 fun h' tk' => s' = { s with heap := h', toks := tk' } ∧ Ret [] (fr outer) h h') ?_ _ _ _ hok ⟨h, tk, rfl, .refl⟩ fun s' g' => ⟨rfl, g'⟩
        rintro i j C' s' hi hj ⟨h', tk', rfl, rr⟩ hC'
        have gi : ∀ i, i < 6 → Ex3 fun x dx t => ks.getD i .none = .ref x ∧ h'.get? x = some (kObj p.a dx (.int (i : Int) t)) ∧ h'.get? dx = some emptyDict := fun i hi => by
          have hlt : i < ks.length := by walk_at "o"
          obtain ⟨x, dx, t, e0, e1, e2, n1, n2, n3, n4, n5⟩ := hkp i ks[i] (List.getElem?_eq_getElem hlt)
          exact ⟨x, dx, t, by rw [List.getD_eq_getElem?_getD, List.getElem?_eq_getElem hlt]; exact e0, rr.keep _ _ (by simp) n3 e1, rr.keep _ _ (by simp) n4 e2⟩
        obtain ⟨x, dx, tx, ex, hx, hdx⟩ := gi i hi
        obtain ⟨y, dy, ty, ey, hy, hdy⟩ := gi j hj
        show wpAny (model prog w) A.in1.in1 (keyLt' oneType' (ks.getD i .none) (ks.getD j .none)) C' _ _
        rw [ex, ey]
        have rr' := r'.trans rr
        have B' := below_ret B rr'
        obtain ⟨ol, fl, hol, hfl⟩ := hlam
        refine K_lt (s := { s with heap := h', toks := tk' }) H (below_at B' rfl) (by show A.depth + (dep + 1) < _; walk_at "o") hh (by show A.units + 2 + (un + 10) < _; walk_at "o") (X.ret rr' hp) hp ⟨ol, fl, rr'.keep _ _ (by simp) hlf hol, hfl⟩ C (hJr _ _ _ hJ rr') hJm hx hdx hy hdy (by walk_at "o") (by walk_at "o") (by walk_at "o") (by walk_at "o") fun h₃ tk₃ r₃ => ?_
        exact hC' _ ⟨h₃, tk₃, rfl, rr.trans r₃⟩
  · intro D h' tk vs out hV Dn hl hO r'
    refine k D h' tk Dn ⟨out, hl, ?_, fresh_notin B.frames Dn⟩ r'
    rw [hO]
    revert hin
    generalize (kev (fun i j => decide (c i j < 0)) (kas_sort 6)).toList = l
    intro hin
    induction l with
    | nil => exact .nil
    | cons i l ih =>
      have hi := hin i (by simp)
      obtain ⟨t, e⟩ := ints_get hV (j := i) (n := (i : Int)) (by rw [List.getElem?_map, List.getElem?_range hi]; simp)
      rw [List.map_cons, List.map_cons, List.getD_eq_getElem?_getD, e]
      exact .cons _ t (ih fun j hj => hin j (by simp [hj]))

/-- sorted(l, key=f), the keys ints -/
theorem sortI_fn {l q : Addr} {ns : List Int} {kz : Int → Int} {Q : Value → Shared → Prop} (B : Below A hb outer s.heap) (hl : IL (fr outer) s.heap l ns) (h64 : ns.length < 64)
    (key : ∀ (i : Nat) (n : Int) (t : Tok) h tk, ns[i]? = some n → Ret [] (fr outer) s.heap h →
      wpAny (model prog w) A.in1.in1 (call (.ref q) [.int n t]) (fun k s' => Ex3 fun h' tk' t' => s' = { s with heap := h', toks := tk' } ∧ Ret [] (fr outer) h h' ∧ k = .int (kz n) t') (fun _ _ => False) { s with heap := h, toks := tk })
    (k : ∀ D h' tk out, s.heap.get? D = none → IL (fr outer) h' D out → out.Perm ns → out.Pairwise (fun a b => kz a ≤ kz b) → Ret [] (fr outer) s.heap h' → Q (.ref D) { s with heap := h', toks := tk }) :
    wpAny (model prog w) A (call (.builtin "sorted") [.ref l] [(Str.ofString "key", .ref q)]) Q E s := by
  have hfs : ∀ b ∈ fr outer, ∃ o, s.heap.get? b = some o := fun b m => by obtain ⟨_, o, e, _⟩ := fr_there B.frames m; exact ⟨o, e⟩
  obtain ⟨vs₀, lls, lia, lnf⟩ := hl
  refine sorted_key (V := fun vs => vs = vs₀) hfs (fun vs hV => by rw [hV, lia.length]; exact h64) (fun A' Q' E' hA' hQ' => collect_ls lls (by rw [lia.length]; walk_at "o") fun h₁ tk₁ k₁ => hQ' vs₀ h₁ tk₁ rfl k₁)
    (fun av i k h => Ex2 fun n t => ns[i]? = some n ∧ k = .int (kz n) t) (fun av i k h h' e _ => e) (fun av i k h h' e _ => e) ?_ (fun vs out => KskOut false (ns.map kz) vs out) ?_ ?_ ?_
  · rintro vs av i v h tk rfl hv hav r
    obtain ⟨n, t, rfl, hn⟩ := ints_at lia hv
    refine wpAny_mono (key i n t h tk hn r) (fun k s' hk => ?_) fun _ _ z => z
    obtain ⟨h', tk', t', rfl, rr, rfl⟩ := hk
    exact ⟨h', tk', rfl, rr, n, t', hn, rfl⟩
  · rintro vs rfl h2
    refine ⟨(ns.map kz).zip vs, .refl _, ?_, ?_⟩
    · rw [List.map_snd_zip (by rw [List.length_map, lia.length]; walk_at "o")]
    · have : ((ns.map kz).zip vs).length ≤ 1 := by rw [List.length_zip]; omega
      revert this
      generalize (ns.map kz).zip vs = z
      intro h
      match z, h with
      | [], _ => exact .nil
      | [x], _ => exact List.pairwise_singleton _ _
      | _ :: _ :: _, h => simp at h
  · rintro vs rfl h2 av ks h tk hkl hkp r
    have hkI : IntsAre ks (ns.map kz) := ints_of_get (by rw [List.length_map, hkl, lia.length]) fun i v e => by
      obtain ⟨n, t, e1, rfl⟩ := hkp i v e
      exact ⟨kz n, t, by rw [List.getElem?_map, e1]; rfl, rfl⟩
    have hsz : (ks.toArray.zip vs.toArray).size = vs.length := by simp [hkl]
    rw [ksk_kind (keys := ks.toArray) (kz := ns.map kz) (by simpa using hkI) (by simpa [hkl] using h2)]
    refine wpAny_pure ?_
    refine wpAny_mono (wpS_sortRuns (a₀ := ks.toArray.zip vs.toArray) (st := SortSt.mk' oneType' (ks.toArray.zip vs.toArray) #[] 7 none)
      (Q := fun _ st' => (arrOf st').Perm (ks.toArray.zip vs.toArray) ∧ failedOf st' = none ∧ SortedTo (arrOf st') (ks.toArray.zip vs.toArray).size)
      (ksk_intKeys (kz := ns.map kz) (by simpa using hkI)) ⟨.refl _, rfl, rfl, rfl⟩ (by rw [hsz]; walk_at "o") (by rw [hsz, lia.length]; exact h64) fun st' a1 a2 a3 => ⟨a1, a2, a3⟩) ?_ fun _ _ e => e
    rintro ⟨⟨⟩, st'⟩ s' ⟨rfl, hp, hf, hs⟩
    have ho := ksk_out (b := false) (keys := ks.toArray) (vs := vs) (kz := ns.map kz) (by simpa using hkI) hp (by rw [hp.size_eq]; exact hs)
    simp only [Bool.false_eq_true, if_false] at ho
    refine ⟨h, tk, rfl, .refl, hf, ((arrOf st').map (·.2)).toList, by rw [Array.toArray_toList], ?_, ho⟩
    rw [Array.length_toList, Array.size_map, hp.size_eq, hsz]
  · rintro D h' tk vs out rfl Dn hl' ⟨ps, hperm, rfl, hpw⟩ r
    have hz : ∀ q ∈ (ns.map kz).zip vs, Ex2 fun n t => q.2 = .int n t ∧ q.1 = kz n := by
      intro q hq
      obtain ⟨i, hi, e⟩ := List.getElem_of_mem hq
      rw [List.getElem_zip] at e
      have hiv : i < vs.length := by rw [List.length_zip] at hi; omega
      obtain ⟨n, t, e1, e2⟩ := ints_at lia (List.getElem?_eq_getElem hiv)
      refine ⟨n, t, by rw [← e]; exact e1, ?_⟩
      rw [← e]
      have hin : i < ns.length := (List.getElem?_eq_some_iff.mp e2).1
      have : ns[i] = n := (List.getElem?_eq_some_iff.mp e2).2
      simp [this]
    have hps : ∀ q ∈ ps, Ex2 fun n t => q.2 = .int n t ∧ q.1 = kz n := fun q hq => hz q (hperm.mem_iff.mp hq)
    refine k D h' tk (ps.map fun q => numOf q.2) Dn ⟨_, hl', ?_, fresh_notin B.frames Dn⟩ ?_ ?_ r
    · refine ints_of_get (by simp) fun i v e => ?_
      rw [List.getElem?_map] at e
      obtain ⟨q, e1, e2⟩ := Option.map_eq_some_iff.mp e
      obtain ⟨n, t, e3, e4⟩ := hps q (List.mem_of_getElem? e1)
      refine ⟨n, t, ?_, by rw [← e2, e3]⟩
      rw [List.getElem?_map, e1]
      simp [e3, numOf]
    · have h1 := hperm.map (fun q => numOf q.2)
      have h2 : ((ns.map kz).zip vs).map (fun q => numOf q.2) = ns := by
        have : ((ns.map kz).zip vs).map (fun q => numOf q.2) = (((ns.map kz).zip vs).map Prod.snd).map numOf := by rw [List.map_map]; rfl
        rw [this, List.map_snd_zip (by rw [List.length_map, lia.length]; walk_at "o"), lia.nums]
      rw [h2] at h1; exact h1
    · rw [List.pairwise_map]
      refine hpw.imp_of_mem fun {x y} hx hy hxy => ?_
      obtain ⟨n, t, e3, e4⟩ := hps x hx
      obtain ⟨m, u, e5, e6⟩ := hps y hy
      simp only [Bool.false_eq_true, if_false] at hxy
      rw [e3, e5]
      show kz n ≤ kz m
      rw [← e4, ← e6]; exact hxy
end
end Mine
end

section
open PySem PySem.W PyProof.Rows
set_option maxRecDepth 100000
set_option maxHeartbeats 4000000
namespace Mine
open PySem PySem.Spec PySem.Calls PyProof.Rows PySem.W

/-- a list of lists of ints and of ints -/
inductive MP (fs : List Addr) (h : Heap) : List Value → List (List Int ⊕ Int) → Prop
  | nil : MP fs h [] []
  | lst {b : Addr} {ns : List Int} {vs : List Value} {es : List (List Int ⊕ Int)} (x : IL fs h b ns) (r : MP fs h vs es) : MP fs h (.ref b :: vs) (.inl ns :: es)
  | num {n : Int} {t : Tok} {vs : List Value} {es : List (List Int ⊕ Int)} (r : MP fs h vs es) : MP fs h (.int n t :: vs) (.inr n :: es)

section
variable {fs fs' : List Addr} {h h' : Heap} {vs ws : List Value} {es ds : List (List Int ⊕ Int)}
theorem MP.mono (p : MP fs h vs es) (k : ∀ b ns, IL fs h b ns → IL fs' h' b ns) : MP fs' h' vs es := by
  induction p with
  | nil => exact .nil
  | lst x r ih => exact .lst (k _ _ x) ih
  | num r ih => exact .num ih
theorem MP.append (p : MP fs h vs es) (q : MP fs h ws ds) : MP fs h (vs ++ ws) (es ++ ds) := by
  induction p with
  | nil => exact q
  | lst x r ih => exact .lst x ih
  | num r ih => exact .num ih
theorem MP.length (p : MP fs h vs es) : vs.length = es.length := by
  induction p with
  | nil => rfl
  | lst x r ih => simp [ih]
  | num r ih => simp [ih]
theorem MP.none (p : MP fs h vs es) {i : Nat} (e : es[i]? = none) : vs[i]? = none := by
  rw [List.getElem?_eq_none_iff] at e ⊢; rw [p.length]; exact e
theorem MP.inl (p : MP fs h vs es) : ∀ {i : Nat} {ns : List Int}, es[i]? = some (.inl ns) → ∃ b, vs[i]? = some (.ref b) ∧ IL fs h b ns := by
  induction p with
  | nil => intro i ns e; simp at e
  | @lst b ns' vs es x r ih =>
    intro i ns e
    cases i with
    | zero => simp at e; subst e; exact ⟨b, rfl, x⟩
    | succ i => simpa using ih (by simpa using e)
  | num r ih =>
    intro i ns e
    cases i with
    | zero => simp at e
    | succ i => simpa using ih (by simpa using e)
theorem MP.inr (p : MP fs h vs es) : ∀ {i : Nat} {n : Int}, es[i]? = some (.inr n) → ∃ t, vs[i]? = some (.int n t) := by
  induction p with
  | nil => intro i ns e; simp at e
  | lst x r ih =>
    intro i ns e
    cases i with
    | zero => simp at e
    | succ i => simpa using ih (by simpa using e)
  | @num n' t vs es r ih =>
    intro i ns e
    cases i with
    | zero => simp at e; subst e; exact ⟨t, rfl⟩
    | succ i => simpa using ih (by simpa using e)
theorem MP.places (p : MP fs h vs es) : ∀ (l : List Nat), MP fs h (l.filterMap (vs[·]?)) (l.filterMap (es[·]?))
  | [] => .nil
  | i :: l => by
    have ih := p.places l
    cases e : es[i]? with
    | none => rw [List.filterMap_cons, List.filterMap_cons, p.none e, e]; exact ih
    | some x =>
      cases x with
      | inl ns =>
        obtain ⟨b, e1, x⟩ := p.inl e
        rw [List.filterMap_cons, List.filterMap_cons, e1, e]; exact .lst x ih
      | inr n =>
        obtain ⟨t, e1⟩ := p.inr e
        rw [List.filterMap_cons, List.filterMap_cons, e1, e]; exact .num ih
theorem MP.lists : ∀ {sets : List (List Int)} {vs : List Value}, MP fs h vs (sets.map .inl) → Pr fs h vs sets
  | [], _, .nil => ⟨rfl, by simp⟩
  | s :: sets, _, .lst x r => by
    have ih := MP.lists r
    refine ⟨by simp [ih.1], fun i v q => ?_⟩
    cases i with
    | zero => simp at q; exact ⟨_, s, q.symm, rfl, x⟩
    | succ i => simpa using ih.2 i v (by simpa using q)
theorem MP.ints : ∀ {ns : List Int} {vs : List Value}, MP fs h vs (ns.map .inr) → IntsAre vs ns
  | [], _, .nil => .nil
  | n :: ns, _, .num r => .cons n _ (MP.ints r)
noncomputable def ML (fs : List Addr) (h : Heap) (a : Addr) (es : List (List Int ⊕ Int)) : Prop := ∃ vs, LS h a vs ∧ a ∉ fs ∧ MP fs h vs es
theorem ML.there {a : Addr} (x : ML fs h a es) : ∃ o, h.get? a = some o := by obtain ⟨vs, l, _⟩ := x; exact l.there
theorem ML.ret {X : List Addr} {a : Addr} (x : ML fs h a es) (r : Ret X fs h h') (hX : ∀ b ∈ X, h.get? b = none) : ML fs h' a es := by
  obtain ⟨vs, l, f, p⟩ := x
  have nx : ∀ {b : Addr}, (∃ o, h.get? b = some o) → b ∉ X := fun ⟨o, q⟩ m => by rw [hX _ m] at q; cases q
  exact ⟨vs, l.ret r (nx l.there) f, f, p.mono fun b ns q3 => q3.ret r (nx q3.there)⟩
theorem ML.more {a L : Addr} (x : ML fs h a es) (q : h.get? L = none) : ML (L :: fs) h a es := by
  obtain ⟨vs, l, f, p⟩ := x
  have nL : ∀ {b : Addr}, (∃ o, h.get? b = some o) → b ≠ L := fun ⟨o, z⟩ m => by rw [m, q] at z; cases z
  refine ⟨vs, l, fun m => ?_, p.mono fun b ns q3 => q3.more (nL q3.there)⟩
  rcases List.mem_cons.mp m with m | m
  · exact nL l.there m
  · exact f m
theorem ML.less {a L : Addr} (x : ML (L :: fs) h a es) : ML fs h a es := by
  obtain ⟨vs, l, f, p⟩ := x
  exact ⟨vs, l, fun m => f (.tail _ m), p.mono fun b ns q => q.less⟩
theorem ML.sub {gs : List Addr} {a : Addr} (x : ML fs h a es) (k : ∀ b ∈ gs, b ∈ fs) : ML gs h a es := by
  obtain ⟨vs, l, f, p⟩ := x
  exact ⟨vs, l, fun m => f (k _ m), p.mono fun b ns ⟨z1, z2, z3, z4⟩ => ⟨z1, z2, z3, fun m => z4 (k _ m)⟩⟩
theorem ML.stays {a : Addr} (x : ML fs h a es) (k : h.StaysIn h') : ML fs h' a es := x.ret (X := []) (.of_stays k) (by simp)
end
end Mine
end

section
open PySem PySem.W PyProof.Rows
set_option maxRecDepth 100000
set_option maxHeartbeats 4000000
namespace Mine
open PySem PySem.Spec PySem.Calls PyProof.Rows PySem.W

/-- a dict of ints -/
noncomputable def DI (prog : Program) (w : World) (fs : List Addr) (h : Heap) (a : Addr) (g : Int → Option Int) : Prop :=
  a ∉ fs ∧ ∃ kvs, h.DictOf (intKind prog w) a kvs ∧ ∀ k n, g k = some n → ∃ t, valueAt kvs k = some (.int n t)

inductive Fact : Type where
  | il (a : Addr) (ns : List Int)
  | ll (a : Addr) (nss : List (List Int))
  | di (a : Addr) (g : Int → Option Int)
  | ob (a : Addr) (o : Obj)
  | ml (a : Addr) (es : List (List Int ⊕ Int))

noncomputable def Fact.ok (prog : Program) (w : World) (fs : List Addr) (h : Heap) : Fact → Prop
  | .il a ns => IL fs h a ns
  | .ll a nss => LL fs h a nss
  | .di a g => DI prog w fs h a g
  | .ml a es => ML fs h a es
  | .ob a o => h.get? a = some o ∧ a ∉ fs ∧ o.cls ≠ .none ∧ (∀ v, o.data ≠ .cell v)

/-- what may be changed without a fact being touched -/
noncomputable def Free (fs : List Addr) (h : Heap) (X : List Addr) : Prop := ∀ b ∈ X, b ∈ fs ∨ h.get? b = none ∨ (∃ ps, h.get? b = some (tabObj ps)) ∨ Ex2 fun o v => h.get? b = some o ∧ o.data = .cell v
theorem Free.nil {fs : List Addr} {h : Heap} : Free fs h [] := fun _ m => absurd m List.not_mem_nil
theorem Free.notin {fs : List Addr} {h : Heap} {X : List Addr} {a : Addr} {o : Obj} (x : Free fs h X) (e : h.get? a = some o) (hf : a ∉ fs) (hc : o.cls ≠ .none) (hd : ∀ v, o.data ≠ .cell v) : a ∉ X := fun m => by
  rcases x a m with q | q | ⟨ps, q⟩ | ⟨o', v, q, d⟩
  · exact hf q
  · rw [e] at q; cases q
  · rw [e] at q; cases q; exact hc rfl
  · rw [e] at q; cases q; exact hd v d
section
variable {prog : Program} {w : World} {X fs : List Addr} {h h' : Heap}
theorem IL.free {a : Addr} {ns : List Int} (x : IL fs h a ns) (r : Ret X fs h h') (f : Free fs h X) : IL fs h' a ns := by
  refine x.ret r ?_
  obtain ⟨vs, ⟨n, e⟩, i, q⟩ := x
  exact f.notin e q (by simp) (by simp)
theorem LL.free {a : Addr} {nss : List (List Int)} (x : LL fs h a nss) (r : Ret X fs h h') (f : Free fs h X) : LL fs h' a nss := by
  obtain ⟨vs, l, q, p⟩ := x
  refine ⟨vs, l.ret r ?_ q, q, p.mono fun b ns z => z.free r f⟩
  obtain ⟨n, e⟩ := l
  exact f.notin e q (by simp) (by simp)
theorem ML.free {a : Addr} {es : List (List Int ⊕ Int)} (x : ML fs h a es) (r : Ret X fs h h') (f : Free fs h X) : ML fs h' a es := by
  obtain ⟨vs, l, q, p⟩ := x
  refine ⟨vs, l.ret r ?_ q, q, p.mono fun b ns z => z.free r f⟩
  obtain ⟨n, e⟩ := l
  exact f.notin e q (by simp) (by simp)
theorem DI.free {a : Addr} {g : Int → Option Int} (x : DI prog w fs h a g) (r : Ret X fs h h') (f : Free fs h X) : DI prog w fs h' a g := by
  obtain ⟨q, kvs, d, z⟩ := x
  refine ⟨q, kvs, d.at fun o e => ?_, z⟩
  obtain ⟨o', es, ep, e', ec, ed, _⟩ := d
  refine r.keep a o (f.notin e' q ?_ ?_) q e
  · rw [ec.1]; simp
  · rw [ed]; simp
theorem Fact.free {x : Fact} (o : x.ok prog w fs h) (r : Ret X fs h h') (f : Free fs h X) : x.ok prog w fs h' := by
  cases x with
  | il a ns => exact IL.free o r f
  | ll a nss => exact LL.free o r f
  | di a g => exact DI.free o r f
  | ml a es => exact ML.free o r f
  | ob a ob => exact ⟨r.keep a ob (f.notin o.1 o.2.1 o.2.2.1 o.2.2.2) o.2.1 o.1, o.2⟩
end

/-- the state of the law between two steps -/
structure Law (prog : Program) (w : World) (fs : List Addr) (L : Addr) (cells : List (Str × Addr)) (m cm : Str → Option Value) (F : List Fact) (h : Heap) : Prop where
  ns : h.Ns L m
  cl : ∀ n c, cells.lookup n = some c → h.IsCell c (cm n) ∧ c ∉ fs
  fa : ∀ f ∈ F, f.ok prog w fs h

section
variable {prog : Program} {w : World} {fs : List Addr} {L : Addr} {cells : List (Str × Addr)} {m m' cm : Str → Option Value} {F : List Fact} {h h' : Heap} {X : List Addr}
theorem Law.ret (x : Law prog w fs L cells m cm F h) (r : Ret X fs h h') (f : Free fs h X) (hL : L ∉ X) (hc : ∀ n c, cells.lookup n = some c → c ∉ X) : Law prog w fs L cells m cm F h' :=
  ⟨r.ns x.ns hL, fun n c e => ⟨cell_ret (x.cl n c e).1 r (hc n c e) (x.cl n c e).2, (x.cl n c e).2⟩, fun q mq => Fact.free (x.fa q mq) r f⟩
theorem Law.ret0 (x : Law prog w fs L cells m cm F h) (r : Ret [] fs h h') : Law prog w fs L cells m cm F h' := x.ret r .nil (by simp) (by simp)
theorem Law.stays (x : Law prog w fs L cells m cm F h) (k : h.StaysIn h') : Law prog w fs L cells m cm F h' := x.ret0 (.of_stays k)
theorem Law.tab {P : Addr} {ps : Array Value} (x : Law prog w fs L cells m cm F h) (r : Ret [P] fs h h') (hP : h.get? P = some (tabObj ps)) : Law prog w fs L cells m cm F h' := by
  refine x.ret r (fun b mb => by rw [List.mem_singleton.mp mb]; exact .inr (.inr (.inl ⟨ps, hP⟩))) ?_ ?_
  · intro q
    obtain ⟨o, es, ep, e, hd, _⟩ := x.ns
    rw [List.mem_singleton.mp q, hP] at e; cases e; cases hd
  · intro n c e q
    obtain ⟨o, ho, hd⟩ := (x.cl n c e).1
    rw [List.mem_singleton.mp q, hP] at ho; cases ho; cases hd
theorem Law.setL (x : Law prog w fs L cells m cm F h) (hL : L ∈ fs) (hs : Heap.SameBut L h h') (hn : h'.Ns L m') : Law prog w fs L cells m' cm F h' := by
  have r : Ret [L] fs h h' := .of_but hs.extBut (by simp)
  refine ⟨hn, fun n c e => ⟨cell_ret (x.cl n c e).1 r ?_ (x.cl n c e).2, (x.cl n c e).2⟩, fun q mq => Fact.free (x.fa q mq) r (fun b mb => .inl (by rw [List.mem_singleton.mp mb]; exact hL))⟩
  intro q; rw [List.mem_singleton.mp q] at e; exact (x.cl n L e).2 hL
theorem Law.setC {y : Str} {c : Addr} {v : Value} (x : Law prog w fs L cells m cm F h) (hy : cells.lookup y = some c) (hinj : ∀ n c', cells.lookup n = some c' → c' = c → n = y) (hs : Heap.SameBut c h h') (hv : h'.IsCell c (some v)) :
    Law prog w fs L cells m (fun z => if z = y then some v else cm z) F h' := by
  have r : Ret [c] fs h h' := .of_but hs.extBut (by simp)
  obtain ⟨⟨oc, ec, dc⟩, hcf⟩ := x.cl y c hy
  refine ⟨r.ns x.ns ?_, fun n c' e => ?_, fun q mq => Fact.free (x.fa q mq) r (fun b mb => .inr (.inr (.inr ⟨oc, _, by rw [List.mem_singleton.mp mb]; exact ec, dc⟩)))⟩
  · intro q
    obtain ⟨o, es, ep, e, hd, _⟩ := x.ns
    rw [List.mem_singleton.mp q, ec] at e; cases e; rw [dc] at hd; cases hd
  · by_cases q : c' = c
    · have := hinj n c' e q
      subst this; subst q
      exact ⟨by rw [if_pos rfl]; exact hv, hcf⟩
    · have hn : n ≠ y := by rintro rfl; rw [hy] at e; exact q (Option.some.inj e).symm
      rw [if_neg hn]
      exact ⟨cell_ret (x.cl n c' e).1 r (by simpa using q) (x.cl n c' e).2, (x.cl n c' e).2⟩
theorem Law.add {f : Fact} (x : Law prog w fs L cells m cm F h) (o : f.ok prog w fs h) : Law prog w fs L cells m cm (f :: F) h :=
  ⟨x.ns, x.cl, fun q mq => by rcases List.mem_cons.mp mq with rfl | mq; exact o; exact x.fa q mq⟩
theorem Law.only {F' : List Fact} (x : Law prog w fs L cells m cm F h) (s : ∀ f ∈ F', f ∈ F) : Law prog w fs L cells m cm F' h := ⟨x.ns, x.cl, fun q mq => x.fa q (s q mq)⟩
end

noncomputable def lawS : Stmt := nth PySem.Challenge.pw_kt0005_01.main.body 21
noncomputable def lawB : List Stmt := stmtsOf lawS
noncomputable def lawSc : Scope := scpOf lawS
end Mine
end

section
open PySem PySem.W PyProof.Rows
set_option maxRecDepth 100000
set_option maxHeartbeats 4000000
namespace Mine
open PySem PySem.Spec PySem.Calls PyProof.Rows PySem.W

theorem take_succ_fm (p : Int → Bool) (f : Int → Int) (l : List Int) (i : Nat) (a : Int) (e : l[i]? = some a) : ((l.take (i + 1)).filter p).map f = ((l.take i).filter p).map f ++ if p a then [f a] else [] := by
  rw [take_succ_filter p l i a e, List.map_append]
  cases p a <;> rfl

section
variable {w : World} {prog : Program} {A : Around} {s : Shared} {E : Value → Shared → Prop} {env : Env}

theorem walks_src {FS F0 W0 : List Addr} {h : Heap} {xv : Value} {n : Nat} {item : Nat → Value → Prop} (S : Src prog w A FS F0 W0 h xv n item) : Src prog w A FS F0 W0 h xv n (fun i v => item i v ∧ i < n) where
  opens := fun s Q E e k => S.opens s Q E e fun I fp wr P St h₂ W hP hst hfp hfF hf0 hwr hex kk => k I fp wr P St h₂ W (fun i v hi hp => ⟨hP i v hi hp, hi⟩) hst hfp hfF hf0 hwr hex kk

/-- a comprehension over ints that makes a list of ints -/
theorem icomp {elt iter : Expr} {x : Str} {px : Pos} {ifs : List Expr} {scope : Scope} {cl : List (Str × Addr)} {pos : Pos} {fs : List Addr} {Q : Value → Shared → Prop} (p : Int → Bool) (f : Int → Int)
    (hclos : closureFor scope env = pure cl) (hcell : ∀ y ∈ scope.names, y.2 ≠ .cell) (hkind : scope.kind = .function)
    (hnames : ∀ y ∈ scope.names, y.2 = .local → scope.names.lookup y.1 = some .local) (hx : scope.names.lookup x = some .local)
    (h : wpAny (model prog w) A (eval iter env) (fun xv s₁ => Ex4 fun n item F0 (ns : List Int) => Src prog w A fs F0 [] s₁.heap xv n item ∧ ns.length = n ∧ (∀ i v, item i v → Ex2 fun k t => ns[i]? = some k ∧ v = .int k t) ∧ n ≤ 1000 ∧ (∀ b ∈ fs, ∃ o, s₁.heap.get? b = some o) ∧
      (∀ C k t s₃ m₃ E', k ∈ ns → s₃.heap.Ns C m₃ → m₃ x = some (.int k t) → Ret [] fs s₁.heap s₃.heap →
        wpAny (model prog w) A (testsOf ifs (compEnvC scope cl C env)) (fun ok s₄ => ok = p k ∧ Ex2 fun h₄ tk₄ => s₄ = { s₃ with heap := h₄, toks := tk₄ } ∧ Ret [] fs s₃.heap h₄) E' s₃) ∧
      (∀ C k t s₃ m₃ E', k ∈ ns → p k = true → s₃.heap.Ns C m₃ → m₃ x = some (.int k t) → Ret [] fs s₁.heap s₃.heap →
        wpAny (model prog w) A (eval elt (compEnvC scope cl C env)) (fun y s₄ => Ex3 fun h₄ tk₄ t' => s₄ = { s₃ with heap := h₄, toks := tk₄ } ∧ Ret [] fs s₃.heap h₄ ∧ y = .int (f k) t') E' s₃) ∧
      (∀ D h' tk, s₁.heap.get? D = none → IL fs h' D ((ns.filter p).map f) → Ret [] fs s₁.heap h' → Q (.ref D) { s₁ with heap := h', toks := tk })) E s)
    (hs : ∀ x, foldedSetIterable iter env x = pure x := by intro _; rfl) :
    wpAny (model prog w) A (eval (.ListComp elt [⟨.Name x px, iter, ifs, 0⟩] scope pos) env) Q E s := by
  refine ListComp_of (FS := fs) (W0 := []) hclos hcell hkind hnames hx (wpAny_mono h (fun xv s₁ h₁ => ?_) fun _ _ e => e) hs
  obtain ⟨n, item, F0, ns, S, hlen, hitem, hz, hfs, htest, helt, hQ⟩ := h₁
  refine ⟨n, item, F0, S, by rw [sizeLine_eq]; omega, hfs, fun bad i ys h => IntsAre ys (((ns.take i).filter p).map f), fun bad h => by simpa using IntsAre.nil, fun bad i ys h h' e _ => e, ?_, ?_⟩
  · intro bad C i v ys s₃ m₃ E' hi hv hI hnC hmx r hbad hbad2 hCb
    obtain ⟨k, t, hk, rfl⟩ := hitem i v hv
    have hmem := List.mem_of_getElem? hk
    have nx := take_succ_fm p f ns i k hk
    refine wpAny_mono (htest C k t s₃ m₃ E' hmem hnC hmx r) (fun ok s₄ h₄ => ?_) fun _ _ e => e
    obtain ⟨rfl, h₄, tk₄, rfl, r₄⟩ := h₄
    refine ⟨h₄, tk₄, rfl, r₄, ?_⟩
    cases hp : p k with
    | false =>
      rw [if_neg (by simp)]
      show IntsAre ys (((ns.take (i + 1)).filter p).map f)
      rw [nx, hp]; simpa using hI
    | true =>
      rw [if_pos rfl]
      refine wpAny_mono (helt C k t { s₃ with heap := h₄, toks := tk₄ } m₃ E' hmem hp (r₄.ns hnC (by simp)) hmx (r.trans r₄)) (fun y s₅ h₅ => ?_) fun _ _ e => e
      obtain ⟨h₅, tk₅, t', rfl, r₅, rfl⟩ := h₅
      refine ⟨h₅, tk₅, rfl, r₅, ?_⟩
      show IntsAre _ (((ns.take (i + 1)).filter p).map f)
      rw [nx, hp]; exact hI.append (.cons _ t' .nil)
  · intro bad D ys h' tk hDn hDl hI r
    rw [← hlen, List.take_length] at hI
    have hDf : D ∉ fs := fun q => by obtain ⟨o, e⟩ := hfs D q; rw [hDn] at e; cases e
    exact hQ D h' tk hDn ⟨ys, hDl, hI, hDf⟩ r

/-- a comprehension over ints that makes a list of lists of ints -/
theorem lcomp {elt iter : Expr} {x : Str} {px : Pos} {scope : Scope} {cl : List (Str × Addr)} {pos : Pos} {fs : List Addr} {Q : Value → Shared → Prop} (f : Int → List Int)
    (hclos : closureFor scope env = pure cl) (hcell : ∀ y ∈ scope.names, y.2 ≠ .cell) (hkind : scope.kind = .function)
    (hnames : ∀ y ∈ scope.names, y.2 = .local → scope.names.lookup y.1 = some .local) (hx : scope.names.lookup x = some .local)
    (h : wpAny (model prog w) A (eval iter env) (fun xv s₁ => Ex4 fun n item F0 (ns : List Int) => Src prog w A fs F0 [] s₁.heap xv n item ∧ ns.length = n ∧ (∀ i v, item i v → Ex2 fun k t => ns[i]? = some k ∧ v = .int k t) ∧ n ≤ 1000 ∧ (∀ b ∈ fs, ∃ o, s₁.heap.get? b = some o) ∧
      (∀ C k t s₃ m₃ E', k ∈ ns → s₃.heap.Ns C m₃ → m₃ x = some (.int k t) → Ret [] fs s₁.heap s₃.heap →
        wpAny (model prog w) A (eval elt (compEnvC scope cl C env)) (fun y s₄ => Ex3 fun h₄ tk₄ b => s₄ = { s₃ with heap := h₄, toks := tk₄ } ∧ Ret [] fs s₃.heap h₄ ∧ y = .ref b ∧ s₃.heap.get? b = none ∧ IL fs h₄ b (f k)) E' s₃) ∧
      (∀ D h' tk, s₁.heap.get? D = none → LL fs h' D (ns.map f) → Ret [] fs s₁.heap h' → Q (.ref D) { s₁ with heap := h', toks := tk })) E s)
    (hs : ∀ x, foldedSetIterable iter env x = pure x := by intro _; rfl) :
    wpAny (model prog w) A (eval (.ListComp elt [⟨.Name x px, iter, [], 0⟩] scope pos) env) Q E s := by
  refine ListComp_of (FS := fs) (W0 := []) hclos hcell hkind hnames hx (wpAny_mono h (fun xv s₁ h₁ => ?_) fun _ _ e => e) hs
  obtain ⟨n, item, F0, ns, S, hlen, hitem, hz, hfs, helt, hQ⟩ := h₁
  refine ⟨n, item, F0, S, by rw [sizeLine_eq]; omega, hfs, fun bad i ys h => ys.length = ((ns.take i).map f).length ∧ ∀ (j : Nat) (v : Value), ys[j]? = some v → Ex2 fun b l => v = .ref b ∧ ((ns.take i).map f)[j]? = some l ∧ IL fs h b l ∧ b ∉ bad, fun bad h => ⟨by simp, by simp⟩, ?_, ?_, ?_⟩
  · rintro bad i ys h h' ⟨e1, e2⟩ k
    refine ⟨e1, fun j v e => ?_⟩
    obtain ⟨b, l, q1, q2, q3, q4⟩ := e2 j v e
    exact ⟨b, l, q1, q2, q3.at fun o e => k b o q4 e, q4⟩
  · intro bad C i v ys s₃ m₃ E' hi hv hI hnC hmx r hbad hbad2 hCb
    obtain ⟨k, t, hk, rfl⟩ := hitem i v hv
    have hmem := List.mem_of_getElem? hk
    obtain ⟨e1, e2⟩ := hI
    refine tests0 ⟨s₃.heap, s₃.toks, rfl, .refl, ?_⟩
    rw [if_pos rfl]
    refine wpAny_mono (helt C k t s₃ m₃ E' hmem hnC hmx r) (fun y s₅ h₅ => ?_) fun _ _ e => e
    obtain ⟨h₅, tk₅, b, rfl, r₅, rfl, hbn, hb⟩ := h₅
    have nx : (ns.take (i + 1)).map f = (ns.take i).map f ++ [f k] := by rw [List.take_add_one, hk]; simp
    refine ⟨h₅, tk₅, rfl, r₅, by rw [nx, List.length_append, List.length_append, e1]; rfl, fun j v e => ?_⟩
    rw [nx]
    rcases Nat.lt_trichotomy j ys.length with z | z | z
    · rw [List.getElem?_append_left z] at e
      obtain ⟨b', l, q1, q2, q3, q4⟩ := e2 j v e
      exact ⟨b', l, q1, by rw [List.getElem?_append_left (e1 ▸ z)]; exact q2, q3.ret r₅ (by simp), q4⟩
    · subst z
      simp at e; subst e
      refine ⟨b, f k, rfl, by rw [e1]; simp, hb, fun m => ?_⟩
      obtain ⟨o, e⟩ := hbad b m; rw [hbn] at e; cases e
    · rw [List.getElem?_eq_none (by simp; walk_at "o")] at e; cases e
  · rintro bad D ys h' tk hDn hDl ⟨e1, e2⟩ r
    rw [← hlen, List.take_length] at e1 e2
    have hDf : D ∉ fs := fun q => by obtain ⟨o, e⟩ := hfs D q; rw [hDn] at e; cases e
    exact hQ D h' tk hDn ⟨ys, hDl, hDf, e1, fun j v e => by obtain ⟨b, l, q1, q2, q3, _⟩ := e2 j v e; exact ⟨b, l, q1, q2, q3⟩⟩ r

theorem valueAt_upd {K : Type} [DecidableEq K] {k k' : K} {v : Value} : ∀ {kvs : List (K × Value)}, valueAt (kvs.map fun kv => if kv.1 = k then (kv.1, v) else kv) k' = if k' = k ∧ kvs.any (fun kv => kv.1 = k) = true then some v else valueAt kvs k'
  | [] => by simp [valueAt]
  | kv :: r => by
    have ih := valueAt_upd (k := k) (k' := k') (v := v) (kvs := r)
    unfold valueAt at ih ⊢
    rw [List.map_cons, List.find?_cons, List.find?_cons, List.any_cons]
    by_cases h1 : kv.1 = k
    · by_cases h2 : k' = k
      · subst h2; simp [h1]
      · have h3 : ¬ kv.1 = k' := fun q => h2 (q.symm.trans h1)
        have h4 : ¬ k = k' := fun q => h2 q.symm
        simp only [h1, if_true, h2, false_and, if_false]
        simp only [h4, decide_false]
        rw [ih]; simp [h2]
    · simp only [h1, if_false, decide_false, Bool.false_or]
      by_cases h3 : kv.1 = k'
      · have h2 : ¬ k' = k := fun q => h1 (h3.trans q)
        simp [h3, h2]
      · simp only [h3, decide_false]
        exact ih
theorem valueAt_stored {K : Type} [DecidableEq K] {kvs : List (K × Value)} {k k' : K} {v : Value} : valueAt (stored kvs k v) k' = if k' = k then some v else valueAt kvs k' := by
  unfold stored
  by_cases h : kvs.any (fun kv => kv.1 = k) = true
  · rw [if_pos h, valueAt_upd]
    by_cases h2 : k' = k
    · rw [if_pos ⟨h2, h⟩, if_pos h2]
    · rw [if_neg (fun q => h2 q.1), if_neg h2]
  · rw [if_neg h]
    unfold valueAt
    rw [List.find?_append]
    by_cases h2 : k' = k
    · subst h2
      have : kvs.find? (fun kv => decide (kv.1 = k')) = none := by
        rw [List.find?_eq_none]
        intro x hx hq
        exact h (List.any_eq_true.mpr ⟨x, hx, hq⟩)
      rw [this]; simp
    · rw [if_neg h2]
      cases kvs.find? (fun kv => decide (kv.1 = k')) with
      | some x => rfl
      | none =>
        have h4 : ¬ k = k' := fun q => h2 q.symm
        simp [h4]

theorem stored_all {key : Nat → Int} {n : Nat} (hinj : ∀ i j, i < n → j < n → key i = key j → i = j) {vs : List Value} {kvs : List (Int × Value)}
    (S : StoredAll (fun v k => Ex2 fun i t => v = .int ((i : Nat) : Int) t ∧ i < n ∧ k = key i) (fun v y => Ex3 fun i t t' => v = .int ((i : Nat) : Int) t ∧ y = .int (i : Int) t') vs kvs) :
    (∀ (j : Nat) (v : Value), vs[j]? = some v → ∃ t, v = .int (j : Int) t) → ∀ i, i < vs.length → ∃ t, valueAt kvs (key i) = some (.int (i : Int) t) := by
  induction S with
  | nil => intro _ i hi; simp at hi
  | @snoc l kvs v k y S' hk hy ih =>
    intro hv i hi
    obtain ⟨i', t, rfl, hi', rfl⟩ := hk
    obtain ⟨i2, t2, t3, e2, rfl⟩ := hy
    obtain ⟨t4, e4⟩ := hv l.length (.int ((i' : Nat) : Int) t) (by simp)
    injection e4 with e5 _
    injection e2 with e6 _
    have e5 : i' = l.length := by exact_mod_cast e5
    have e6 : i' = i2 := by exact_mod_cast e6
    subst e6
    rw [valueAt_stored]
    have ih' := ih (fun j v e => hv j v (by
      have hj : j < l.length := (List.getElem?_eq_some_iff.mp e).1
      rw [List.getElem?_append_left hj]; exact e))
    by_cases q : i = i'
    · subst q
      rw [if_pos rfl]; exact ⟨_, rfl⟩
    · have hl : i < l.length := by simp at hi; omega
      rw [if_neg (fun z => q (hinj i i' (by walk_at "o") hi' z))]
      exact ih' i hl

theorem walks_strong {I : Addr} {fp wr : List Addr} {n : Nat} {P : Nat → Value → Prop} {St : Nat → Heap → Prop} (W : Walks prog w A I fp wr n P St) : Walks prog w A I fp wr n (fun i v => P i v ∧ i < n) St :=
  { W with item := fun i s Q E hi hst k => W.item i s Q E hi hst fun v h' tk hP => k v h' tk ⟨hP, hi⟩ }

/-- {key(k): k for k in range(n)} -/
theorem dcomp {kx vx iter : Expr} {x : Str} {px : Pos} {scope : Scope} {cl : List (Str × Addr)} {pos : Pos} {fs : List Addr} {Q : Value → Shared → Prop} {n : Nat} (key : Nat → Int) (g : Int → Option Int)
    (hinj : ∀ i j, i < n → j < n → key i = key j → i = j) (hg : ∀ k m, g k = some m → ∃ i, i < n ∧ k = key i ∧ m = (i : Int))
    (hclos : closureFor scope env = pure cl) (hcell : ∀ y ∈ scope.names, y.2 ≠ .cell) (hkind : scope.kind = .function)
    (hnames : ∀ y ∈ scope.names, y.2 = .local → scope.names.lookup y.1 = some .local) (hx : scope.names.lookup x = some .local) (hh : A.handled = none) (hn : n ≤ 1000)
    (h : wpAny (model prog w) A (eval iter env) (fun xv s₁ => Ex4 fun r t u v => xv = .ref r ∧ IsRange s₁.heap r 0 n 1 t u v ∧ (∀ b ∈ fs, ∃ o, s₁.heap.get? b = some o) ∧
      (∀ C i t s₃ m₃ E', i < n → s₃.heap.Ns C m₃ → m₃ x = some (.int ((i : Nat) : Int) t) → Ret [] fs s₁.heap s₃.heap →
        wpAny (model prog w) A (eval kx (compEnvC scope cl C env)) (fun y s₄ => (∃ t', y = .int (key i) t') ∧ Keeps s₃ s₄) E' s₃) ∧
      (∀ C i t s₃ m₃ E', i < n → s₃.heap.Ns C m₃ → m₃ x = some (.int ((i : Nat) : Int) t) →
        wpAny (model prog w) A (eval vx (compEnvC scope cl C env)) (fun y s₄ => (∃ t', y = .int (i : Int) t') ∧ Keeps s₃ s₄) E' s₃) ∧
      (∀ D h' tk, s₁.heap.get? D = none → DI prog w fs h' D g → Ret [] fs s₁.heap h' → Q (.ref D) { s₁ with heap := h', toks := tk })) E s)
    (hs : ∀ x, foldedSetIterable iter env x = pure x := by intro _; rfl) :
    wpAny (model prog w) A (eval (.DictComp kx vx [⟨.Name x px, iter, [], 0⟩] scope pos) env) Q E s := by
  refine wpAny_DictComp_free (intKind prog w) (fun _ => true) (fun v k => Ex2 fun i t => v = .int ((i : Nat) : Int) t ∧ i < n ∧ k = key i) (fun v y => Ex3 fun i t t' => v = .int ((i : Nat) : Int) t ∧ y = .int (i : Int) t')
    hclos hcell hkind hnames hx (wpAny_mono h (fun xv s₁ h₁ => ?_) fun _ _ e => e) hs
  obtain ⟨r, t, u, v, rfl, hr, hfs, hkey, hval, hQ⟩ := h₁
  refine wpAny_pyIter_range hr (rsmall (by walk_at "o")) ?_
  have k₂ : s₁.heap.StaysIn (s₁.heap.push { cls := .type "range_iterator", data := .fields #[rawInt 0, rawInt (Builtin.Range.rangeSize 0 n 1), rawInt 1] }) := fun b o e => Heap.get?_push_of_some _ e
  have hit : IsRangeIter (s₁.heap.push { cls := .type "range_iterator", data := .fields #[rawInt 0, rawInt (Builtin.Range.rangeSize 0 n 1), rawInt 1] }) s₁.heap.objs.size (0 + ((0 : Nat) : Int) * 1) ((n : Int) - ((0 : Nat) : Int)) 1 := by
    show IsRangeIter _ _ _ _ _; rw [rsize]; simpa using Heap.get?_push_size _ rfl
  have hwn : s₁.heap.get? s₁.heap.objs.size = none := Heap.get?_none_of_le (Nat.le_refl _)
  refine ⟨s₁.heap.objs.size, _, _, n, _, _, rfl, walks_strong (Walks.range hh s₁.heap.objs.size 0 1 n), by rw [sizeLine_eq]; omega, hit, fun b m => by rw [List.mem_singleton.mp m, Heap.size_push]; exact Nat.lt_succ_self _, ⟨?_, ?_, ?_⟩, ?_⟩
  · intro C i v s₃ m₃ E' hP hnC hm hk
    exact tests0 ⟨rfl, s₃.heap, s₃.toks, rfl, fun b o e => e⟩
  · rintro C i v s₃ m₃ E' ⟨⟨t', rfl⟩, hi⟩ _ hnC hm hk
    have hv : (0 : Int) + (i : Int) * 1 = (i : Int) := by walk_at "o"
    rw [hv] at hm ⊢
    refine wpAny_mono (hkey C i t' s₃ m₃ E' hi hnC hm (.of_stays fun b o e => hk b o (fun q => by rw [List.mem_singleton.mp q, hwn] at e; cases e) (k₂ _ _ e))) (fun y s₄ h₄ => ?_) fun _ _ e => e
    obtain ⟨⟨t2, rfl⟩, hk4⟩ := h₄
    exact ⟨⟨key i, by simp [intKind, Value.isInt], i, t', rfl, hi, rfl⟩, hk4⟩
  · rintro C i v s₃ m₃ E' ⟨⟨t', rfl⟩, hi⟩ _ hnC hm hk
    have hv : (0 : Int) + (i : Int) * 1 = (i : Int) := by walk_at "o"
    rw [hv] at hm ⊢
    refine wpAny_mono (hval C i t' s₃ m₃ E' hi hnC hm) (fun y s₄ h₄ => ?_) fun _ _ e => e
    obtain ⟨⟨t2, rfl⟩, hk4⟩ := h₄
    exact ⟨⟨i, t', t2, rfl, rfl⟩, hk4⟩
  · intro D h' tk kvs vs hDn hd hlen hP hS hk
    have hDn1 : s₁.heap.get? D = none := stays_none k₂ hDn
    have hDf : D ∉ fs := fun q => by obtain ⟨o, e⟩ := hfs D q; rw [hDn1] at e; cases e
    have hft : vs.filter (fun _ => true) = vs := List.filter_eq_self.mpr fun _ _ => rfl
    rw [hft] at hS
    have hall := stored_all hinj hS (fun j v e => by obtain ⟨⟨t', rfl⟩, _⟩ := hP j v e; exact ⟨t', by simp⟩)
    refine hQ D h' tk hDn1 ⟨hDf, kvs, hd, fun k m e => ?_⟩ (.of_stays fun b o e => hk b o (fun q => by rw [List.mem_singleton.mp q, hwn] at e; cases e) (k₂ _ _ e))
    obtain ⟨i, hi, rfl, rfl⟩ := hg k m e
    exact hall i (by walk_at "o")

/-- the source a list of ints -/
theorem icompL {elt iter : Expr} {x : Str} {px : Pos} {ifs : List Expr} {scope : Scope} {cl : List (Str × Addr)} {pos : Pos} {fs : List Addr} {Q : Value → Shared → Prop} (p : Int → Bool) (f : Int → Int)
    (hclos : closureFor scope env = pure cl) (hcell : ∀ y ∈ scope.names, y.2 ≠ .cell) (hkind : scope.kind = .function)
    (hnames : ∀ y ∈ scope.names, y.2 = .local → scope.names.lookup y.1 = some .local) (hx : scope.names.lookup x = some .local) (hh : A.handled = none)
    (h : wpAny (model prog w) A (eval iter env) (fun xv s₁ => Ex2 fun a (ns : List Int) => xv = .ref a ∧ IL fs s₁.heap a ns ∧ ns.length ≤ 1000 ∧ (∀ b ∈ fs, ∃ o, s₁.heap.get? b = some o) ∧
      (∀ C k t s₃ m₃ E', k ∈ ns → s₃.heap.Ns C m₃ → m₃ x = some (.int k t) → Ret [] fs s₁.heap s₃.heap →
        wpAny (model prog w) A (testsOf ifs (compEnvC scope cl C env)) (fun ok s₄ => ok = p k ∧ Ex2 fun h₄ tk₄ => s₄ = { s₃ with heap := h₄, toks := tk₄ } ∧ Ret [] fs s₃.heap h₄) E' s₃) ∧
      (∀ C k t s₃ m₃ E', k ∈ ns → p k = true → s₃.heap.Ns C m₃ → m₃ x = some (.int k t) → Ret [] fs s₁.heap s₃.heap →
        wpAny (model prog w) A (eval elt (compEnvC scope cl C env)) (fun y s₄ => Ex3 fun h₄ tk₄ t' => s₄ = { s₃ with heap := h₄, toks := tk₄ } ∧ Ret [] fs s₃.heap h₄ ∧ y = .int (f k) t') E' s₃) ∧
      (∀ D h' tk, s₁.heap.get? D = none → IL fs h' D ((ns.filter p).map f) → Ret [] fs s₁.heap h' → Q (.ref D) { s₁ with heap := h', toks := tk })) E s)
    (hs : ∀ x, foldedSetIterable iter env x = pure x := by intro _; rfl) :
    wpAny (model prog w) A (eval (.ListComp elt [⟨.Name x px, iter, ifs, 0⟩] scope pos) env) Q E s := by
  refine icomp (fs := fs) p f hclos hcell hkind hnames hx (wpAny_mono h (fun xv s₁ h₁ => ?_) fun _ _ e => e) hs
  obtain ⟨a, ns, rfl, ⟨vs, ls, ia, nf⟩, hz, hfs, ht, he, hQ⟩ := h₁
  exact ⟨vs.length, _, [a], ns, Src.list hh ls nf hfs, ia.length.symm, fun i v e => by obtain ⟨n, t, rfl, e'⟩ := ints_at ia e; exact ⟨n, t, e', rfl⟩, by rw [ia.length]; exact hz, hfs, ht, he, hQ⟩

noncomputable def rangeL (n : Nat) : List Int := (List.range n).map fun i => ((i : Nat) : Int)
theorem mem_rangeL {n : Nat} {k : Int} : k ∈ rangeL n ↔ 0 ≤ k ∧ k < n := by
  unfold rangeL
  rw [List.mem_map]
  constructor
  · rintro ⟨i, hi, rfl⟩
    have := List.mem_range.mp hi
    omega
  · rintro ⟨h0, h1⟩
    exact ⟨k.toNat, List.mem_range.mpr (by walk_at "o"), by walk_at "o"⟩
/-- the source range(n) -/
theorem icompR {elt iter : Expr} {x : Str} {px : Pos} {ifs : List Expr} {scope : Scope} {cl : List (Str × Addr)} {pos : Pos} {fs : List Addr} {Q : Value → Shared → Prop} (p : Int → Bool) (f : Int → Int)
    (hclos : closureFor scope env = pure cl) (hcell : ∀ y ∈ scope.names, y.2 ≠ .cell) (hkind : scope.kind = .function)
    (hnames : ∀ y ∈ scope.names, y.2 = .local → scope.names.lookup y.1 = some .local) (hx : scope.names.lookup x = some .local) (hh : A.handled = none)
    (h : wpAny (model prog w) A (eval iter env) (fun xv s₁ => Ex5 fun r t u v (n : Nat) => xv = .ref r ∧ IsRange s₁.heap r 0 n 1 t u v ∧ n ≤ 1000 ∧ (∀ b ∈ fs, ∃ o, s₁.heap.get? b = some o) ∧
      (∀ C (k : Int) t s₃ m₃ E', 0 ≤ k → k < (n : Int) → s₃.heap.Ns C m₃ → m₃ x = some (.int k t) → Ret [] fs s₁.heap s₃.heap →
        wpAny (model prog w) A (testsOf ifs (compEnvC scope cl C env)) (fun ok s₄ => ok = p k ∧ Ex2 fun h₄ tk₄ => s₄ = { s₃ with heap := h₄, toks := tk₄ } ∧ Ret [] fs s₃.heap h₄) E' s₃) ∧
      (∀ C (k : Int) t s₃ m₃ E', 0 ≤ k → k < (n : Int) → p k = true → s₃.heap.Ns C m₃ → m₃ x = some (.int k t) → Ret [] fs s₁.heap s₃.heap →
        wpAny (model prog w) A (eval elt (compEnvC scope cl C env)) (fun y s₄ => Ex3 fun h₄ tk₄ t' => s₄ = { s₃ with heap := h₄, toks := tk₄ } ∧ Ret [] fs s₃.heap h₄ ∧ y = .int (f k) t') E' s₃) ∧
      (∀ D h' tk, s₁.heap.get? D = none → IL fs h' D (((rangeL n).filter p).map f) → Ret [] fs s₁.heap h' → Q (.ref D) { s₁ with heap := h', toks := tk })) E s)
    (hs : ∀ x, foldedSetIterable iter env x = pure x := by intro _; rfl) :
    wpAny (model prog w) A (eval (.ListComp elt [⟨.Name x px, iter, ifs, 0⟩] scope pos) env) Q E s := by
  refine icomp (fs := fs) p f hclos hcell hkind hnames hx (wpAny_mono h (fun xv s₁ h₁ => ?_) fun _ _ e => e) hs
  obtain ⟨r, t, u, v, n, rfl, hr, hz, hfs, ht, he, hQ⟩ := h₁
  refine ⟨n, _, [], rangeL n, walks_src (Src.range (n := n) hh hr (rsmall (by walk_at "o")) rsize hfs), by simp [rangeL], fun i v e => ?_, hz, hfs,
    fun C k t s₃ m₃ E' hk => ht C k t s₃ m₃ E' (mem_rangeL.mp hk).1 (mem_rangeL.mp hk).2, fun C k t s₃ m₃ E' hk hp => he C k t s₃ m₃ E' (mem_rangeL.mp hk).1 (mem_rangeL.mp hk).2 hp, hQ⟩
  obtain ⟨⟨t', rfl⟩, hi⟩ := e
  refine ⟨(i : Int), t', ?_, by simp⟩
  unfold rangeL
  rw [List.getElem?_map, List.getElem?_range hi]; rfl
end
end Mine
end

section
open PySem PySem.W PyProof.Rows
set_option maxRecDepth 100000
set_option maxHeartbeats 4000000
namespace Mine
open PySem PySem.Spec PySem.Calls PyProof.Rows PySem.W

theorem not_in_new {l : List Addr} {n : Nat} (h : ∀ b ∈ l, b < n) {a : Addr} (ha : n ≤ a) : a ∉ l := fun m => absurd (h _ m) (Nat.not_lt.mpr ha)

section
variable {w : World} {prog : Program} {A : Around} {s : Shared} {E : Value → Shared → Prop} {env : Env}

/-- [e(k, x) for k, x in enumerate(l)] -/
theorem ecompG {use : Option (Value → Sem Unit)} {spos : Pos} {elt iter : Expr} {x x₂ : Str} {px px₂ tp : Pos} {kk : Nat} {scope : Scope} {cl : List (Str × Addr)} {pos : Pos} {fs : List Addr} {Q : Value → Shared → Prop} (f : Nat → Int → Int)
    (hclos : closureFor scope env = pure cl) (hcell : ∀ y ∈ scope.names, y.2 ≠ .cell) (hkind : scope.kind = .function)
    (hnames : ∀ y ∈ scope.names, y.2 = .local → scope.names.lookup y.1 = some .local) (hx : scope.names.lookup x = some .local) (hx₂ : scope.names.lookup x₂ = some .local) (hxx : x ≠ x₂) (hh : A.handled = none)
    (h : wpAny (model prog w) A (eval iter env) (fun xv s₁ => Ex6 fun e it l old vs (ns : List Int) => xv = .ref e ∧ IsEnum s₁.heap e it 0 old ∧ s₁.heap.IsListIter it l 0 ∧ LS s₁.heap l vs ∧ IntsAre vs ns ∧ e ≠ it ∧ l ≠ e ∧ l ≠ it ∧ ns.length ≤ 1000 ∧ (∀ b ∈ fs, ∃ o, s₁.heap.get? b = some o) ∧
      e ∉ fs ∧ it ∉ fs ∧ l ∉ fs ∧
      (∀ C i n t t' s₃ m₃ E', ns[i]? = some n → s₃.heap.Ns C m₃ → m₃ x = some (.int ((i : Nat) : Int) t) → m₃ x₂ = some (.int n t') → Ret [e, it] fs s₁.heap s₃.heap →
        wpAny (model prog w) A (eval elt (compEnvC scope cl C env)) (fun y s₄ => Ex3 fun h₄ tk₄ t' => s₄ = { s₃ with heap := h₄, toks := tk₄ } ∧ Ret [] fs s₃.heap h₄ ∧ y = .int (f i n) t') E' s₃) ∧
      (∀ D C h' tk m', s₁.heap.get? D = none → s₁.heap.get? C = none → D ≠ C → h'.Ns C m' → IL fs h' D ((List.range ns.length).map fun i => f i (ns.getD i 0)) → Ret [e, it] fs s₁.heap h' → compPost (model prog w) A E use Q (.ref D) C (.ok .next) { s₁ with heap := h', toks := tk })) E s)
    (hs : ∀ x, foldedSetIterable iter env x = pure x := by intro _; rfl) :
    wpAny (model prog w) A (comprehension (.ListComp elt [⟨.Tuple [.Name x px, .Name x₂ px₂] kk tp, iter, [], 0⟩] scope pos) scope env spos (newList []) false (eval iter env) use) Q E s := by
  refine wpAny_comprehension_free (use := use) rfl hs hclos hkind hnames (wpAny_mono h (fun xv s₁ h₁ => ?_) fun _ _ e => e)
  obtain ⟨e, it, l, old, vs, ns, rfl, he, hit, hl, hi, n1, n2, n3, hz, hfs, ef, itf, lf, helt, hQ⟩ := h₁
  refine wpAny_pyIter_enum he ?_
  refine wpAny_newObj_type (wpAny_newFunctionEnv hcell (by intro y hy; simp at hy) (fun h₁ hns₁ hsb₁ => ?_) hkind)
  dsimp only at hns₁ hsb₁ ⊢
  generalize hH2 : s₁.heap.push { cls := .type "list", dict := none, data := .seq ([] : List Value).toArray } = H2 at hns₁ hsb₁ ⊢
  have hC : H2.objs.size = s₁.heap.objs.size + 1 := by rw [← hH2, Heap.size_push]
  have fD : s₁.heap.get? s₁.heap.objs.size = none := Heap.get?_none_of_le (Nat.le_refl _)
  have fC : s₁.heap.get? H2.objs.size = none := Heap.get?_none_of_le (by rw [hC]; exact Nat.le_succ _)
  have hDC : s₁.heap.objs.size ≠ H2.objs.size := by rw [hC]; exact Nat.ne_of_lt (Nat.lt_succ_self _)
  have k₁ : s₁.heap.StaysIn h₁ := fun b o e => hsb₁.extBut b o (fun q => by rw [q, fC] at e; cases e) (Heap.get?_push_of_some _ (hH2 ▸ Heap.get?_push_of_some _ e))
  have hacc : h₁.PlainList s₁.heap.objs.size #[] := ⟨_, hsb₁.extBut _ _ hDC (Heap.get?_push_of_some _ (hH2 ▸ Heap.get?_push_size _ rfl))⟩
  have xe : ∀ {a : Addr} {o : Obj}, s₁.heap.get? a = some o → a ≠ s₁.heap.objs.size ∧ a ≠ H2.objs.size := fun q => ⟨(fun z => by rw [z, fD] at q; cases q), (fun z => by rw [z, fC] at q; cases q)⟩
  obtain ⟨oit, hoit, _⟩ := id hit
  obtain ⟨nl, hol⟩ := id hl
  have xx1 := xe he
  have xx2 := xe hoit
  have xx3 := xe hol
  have fsD : s₁.heap.objs.size ∉ fs := fun m => by obtain ⟨o, q⟩ := hfs _ m; rw [fD] at q; cases q
  have fsC : H2.objs.size ∉ fs := fun m => by obtain ⟨o, q⟩ := hfs _ m; rw [fC] at q; cases q
  generalize hDq : s₁.heap.objs.size = D at *
  generalize H2.objs.size = C at *
  have W := WalksT.enumerate (prog := prog) (w := w) (A := A) hh e it l n1 n2 n3 vs.toArray
  have hvl : vs.toArray.size = ns.length := by rw [List.size_toArray, hi.length]
  rw [hvl] at W
  have loop : ∀ s₃ : Shared, s₃ = { s₁ with heap := h₁, toks := s₁.toks + ([] : List (Str × Value)).length } →
      codeAny (model prog w) A (.compLoop (.ListComp elt [⟨.Tuple [.Name x px, .Name x₂ px₂] kk tp, iter, [], 0⟩] scope pos) 0 (.ref e) (.ref D) (compEnvC scope cl C env)) (compPost (model prog w) A E use Q (.ref D) C) s₃ := by
    rintro s₃ rfl
    refine LCp.codeAny_compLoop_pair (fun k s' => Ex5 fun h' tk i m' ys => s' = { s₁ with heap := h', toks := tk } ∧ i ≤ ns.length ∧ k = ns.length + 1 - i ∧ ((∃ old, IsEnum h' e it i old) ∧ h'.IsListIter it l i ∧ h'.IsList l vs.toArray) ∧ h'.Ns C m' ∧
      LS h' D ys ∧ IntsAre ys ((List.range i).map fun i => f i (ns.getD i 0)) ∧ Ret [D, C, e, it] fs s₁.heap h') ?_ (ns.length + 1)
      ⟨h₁, _, 0, _, [], rfl, Nat.zero_le _, rfl, ⟨⟨old, k₁ _ _ he⟩, hit.at fun o e => k₁ _ o e, hl.il.at fun o e => k₁ _ o e⟩, hns₁, LS.of_plain hacc, .nil, .of_stays k₁⟩
    rintro k s' ⟨h', tk, i, m', ys, rfl, hile, rfl, hst, hn', hD', hI', hr⟩
    by_cases hlt : i < ns.length
    · refine W.item i _ _ _ hlt hst fun T vals h₂ tk₂ hPt hTn hT hMid hk₂ => ?_
      obtain ⟨tt, xv, hxv, rfl⟩ := hPt
      obtain ⟨n, t', rfl, hn⟩ := ints_at hi (by simpa using hxv)
      refine W.go _ _ _ i T _ _ _ hMid fun h₃ hst₃ hk₃ => ?_
      have hTw := W.apart i T _ hMid
      have cw : C ∉ [e, it] := by simp; exact ⟨xx1.2.symm, xx2.2.symm⟩
      have dw : D ∉ [e, it] := by simp; exact ⟨xx1.1.symm, xx2.1.symm⟩
      have k₂₃ : ∀ b o, b ∉ [e, it] → h'.get? b = some o → h₃.get? b = some o := fun b o nb q => hk₃ b o nb (hk₂ b o nb q)
      have hT₃ : IsTup h₃ T #[.int (i : Int) tt, .int n t'] := by
        obtain ⟨o, q1, q2, q3⟩ := hT
        exact ⟨o, hk₃ T o hTw q1, q2, q3⟩
      have hnC : h₃.Ns C m' := hn'.at' fun o q => k₂₃ C o cw q
      refine assign_Tuple_tuple hh hT₃ rfl rfl fun h₄ hk₄ => ?_
      have k₄ : h₃.StaysIn h₄ := fun b o q => hk₄ b o (Nat.ne_of_lt (Heap.lt_size q)) q
      refine assignInOrder_cons (wpAny_assign_Name (wpAny_storeName_local (lookup_relabel_local hx) (hnC.keeps k₄) (fun h₅ hn₅ hs₅ => ?_) (by simp [compEnvC, relabel, hkind])))
      refine assignInOrder_cons (wpAny_assign_Name (wpAny_storeName_local (lookup_relabel_local hx₂) hn₅ (fun h₆ hn₆ hs₆ => ?_) (by simp [compEnvC, relabel, hkind])))
      refine assignInOrder_nil ?_
      have up : ∀ b o, b ≠ C → h₃.get? b = some o → h₆.get? b = some o := fun b o hb q => hs₆.extBut b o hb (hs₅.extBut b o hb (k₄ b o q))
      have r₆ : Ret [D, C, e, it] fs s₁.heap h₆ := hr.trans (.of_ext fun b o nb q => up b o (fun z => nb (by simp [z])) (k₂₃ b o (fun z => nb (by simp at z; rcases z with z | z <;> simp [z])) q))
      have r₆' : Ret [e, it] fs s₁.heap h₆ := r₆.less (by
        intro b m; simp at m
        rcases m with rfl | rfl | rfl | rfl
        · exact .inr fD
        · exact .inr fC
        · exact .inl (by simp)
        · exact .inl (by simp))
      refine wpAny_mono (helt C i n tt t' _ _ _ hn hn₆ (by simp [hxx]) (by simp) r₆') (fun y s₄ h₇ => ?_) fun _ _ q => q
      obtain ⟨h₇, tk₇, t'', rfl, r₇, rfl⟩ := h₇
      have D₆ : LS h₆ D ys := (hD'.at fun o q => k₂₃ D o dw q).at fun o q => up D o hDC q
      refine wpAny_list_append_plain (hsz := by rw [List.size_toArray, hI'.length]; simp; rw [sizeLine_eq]; walk_at "o") (D₆.ret r₇ (by simp) fsD).plain fun h₈ hl₈ hs₈ => ?_
      refine ⟨ns.length + 1 - (i + 1), by walk_at "o", h₈, tk₇, i + 1, _, ys ++ [.int (f i n) t''], rfl, by walk_at "o", rfl, ?_, (r₇.ns hn₆ (by simp)).sameBut hs₈ (Ne.symm hDC), by simpa using LS.of_plain hl₈, ?_, ?_⟩
      · refine W.frame _ _ _ hst₃ fun b hb o q => ?_
        have hb' : b = e ∨ b = it ∨ b = l := by simpa using hb
        have b1 : b ≠ C := by rcases hb' with rfl | rfl | rfl; exact xx1.2; exact xx2.2; exact xx3.2
        have b2 : b ≠ D := by rcases hb' with rfl | rfl | rfl; exact xx1.1; exact xx2.1; exact xx3.1
        have b3 : b ∉ fs := by rcases hb' with rfl | rfl | rfl; exact ef; exact itf; exact lf
        exact hs₈.extBut b o b2 (r₇.keep b o (by simp) b3 (up b o b1 q))
      · rw [List.range_succ, List.map_append]
        have hgd : ns.getD i 0 = n := by rw [List.getD_eq_getElem?_getD, hn]; rfl
        simp only [List.map_cons, List.map_nil, hgd]
        exact hI'.append (.cons _ _ .nil)
      · exact (r₆.trans (r₇.wide (by simp))).trans (.of_but hs₈.extBut (by simp))
    · have hin : i = ns.length := by walk_at "o"
      subst hin
      refine W.done _ _ _ hst fun h₂ tk₂ hk₂ => ?_
      have cw : C ∉ [e, it] := by simp; exact ⟨xx1.2.symm, xx2.2.symm⟩
      have dw : D ∉ [e, it] := by simp; exact ⟨xx1.1.symm, xx2.1.symm⟩
      refine hQ D C h₂ tk₂ m' fD fC hDC (hn'.at' fun o q => hk₂ C o cw q) ⟨ys, hD'.at fun o q => hk₂ D o dw q, hI', fsD⟩ ?_
      refine (hr.trans (.of_ext fun b o nb q => hk₂ b o (fun z => nb (by simp at z; rcases z with z | z <;> simp [z])) q)).less ?_
      intro b m; simp at m
      rcases m with rfl | rfl | rfl | rfl
      · exact .inr fD
      · exact .inr fC
      · exact .inl (by simp)
      · exact .inl (by simp)
  exact codeAny_compStart_list (loop _ rfl) (W.self 0 _ _ _ ⟨⟨old, k₁ _ _ he⟩, hit.at fun o e => k₁ _ o e, hl.il.at fun o e => k₁ _ o e⟩ (loop _ rfl))
end
end Mine
end

section
open PySem PySem.W PyProof.Rows
set_option maxRecDepth 100000
set_option maxHeartbeats 4000000
namespace Mine
open PySem PySem.Spec PySem.Calls PyProof.Rows PySem.W

noncomputable abbrev lawCells (L : Addr) : List (Str × Addr) := cellsFrom (L + 1) lawSc.names []
noncomputable abbrev lEnv (L : Addr) : Env := envX "law" lawSc L 142 (.ref 141) (lawCells L)

/-- what the law itself may change -/
noncomputable abbrev XC (L : Addr) : List Addr := [L, L + 1, L + 2, L + 3, L + 4, L + 5, L + 6, L + 7, L + 8, L + 9]
noncomputable abbrev XL (L : Addr) : List Addr := [L, L + 1, L + 2, L + 3, L + 4, L + 5, L + 6, L + 7, L + 8, L + 9, 97, 139]

theorem mem_inj {c : Addr} {n n' : Str} : ∀ {l : List (Str × Addr)}, (l.map (·.2)).Nodup → (n, c) ∈ l → (n', c) ∈ l → n = n'
  | q :: l, h, m, m' => by
    rw [List.map_cons, List.nodup_cons] at h
    rcases List.mem_cons.mp m with e | m
    · rcases List.mem_cons.mp m' with e' | m'
      · rw [← e'] at e; injection e
      · exact absurd (List.mem_map.mpr ⟨_, m', by rw [← e]⟩) h.1
    · rcases List.mem_cons.mp m' with e' | m'
      · exact absurd (List.mem_map.mpr ⟨_, m, by rw [← e']⟩) h.1
      · exact mem_inj h.2 m m'
theorem lawCells_nodup (L : Addr) : ((lawCells L).map (·.2)).Nodup := by
  have e : (lawCells L).map (·.2) = [L + 9, L + 8, L + 7, L + 6, L + 5, L + 4, L + 3, L + 2, L + 1] := rfl
  rw [e]
  simp
theorem lawCells_inj (L : Addr) {y : Str} {c : Addr} (hy : (lawCells L).lookup y = some c) : ∀ n c', (lawCells L).lookup n = some c' → c' = c → n = y := fun n c' e q => by
  subst q; exact mem_inj (lawCells_nodup L) (mem_of_lookup e) (mem_of_lookup hy)

section
variable {w : World} {mg mb : Str → Option Value} {hb : Heap} {prog : Program} {A : Around} {outer : List Env} {E : Value → Shared → Prop} {h : Heap} {g : Array GenState} {d : Drawn} {t : Nat} {os : OsState} {L : Addr} {m cm : Str → Option Value} {F : List Fact}

/-- x = e, x a cell -/
theorem asgC {x : Str} {px pos : Pos} {e : Expr} {c : Addr} {Q : Flow → Shared → Prop} (hc : (lawCells L).lookup x = some c) (hk : (lEnv L).kindOf x = some .cell)
    (he : wpAny (model prog w) A (eval e (lEnv L)) (fun v s₁ => Ex5 fun h₁ t₁ m₁ cm₁ F₁ => s₁ = ⟨h₁, g, d, t₁, os⟩ ∧ Below A hb (lEnv L :: outer) h₁ ∧ Law prog w (L :: fr outer) L (lawCells L) m₁ cm₁ F₁ h₁ ∧
      (∀ h₂ t₂, Below A hb (lEnv L :: outer) h₂ → Law prog w (L :: fr outer) L (lawCells L) m₁ (fun z => if z = x then some v else cm₁ z) F₁ h₂ → Ret [c] (L :: fr outer) h₁ h₂ → Q .next ⟨h₂, g, d, t₂, os⟩)) E ⟨h, g, d, t, os⟩)
    (hcb : hb.get? c = none) (hs : swapsWith e (some (.Name x px)) pos.line (lEnv L) = pure false := by rfl) :
    wpAny (model prog w) A (exec (.Assign [.Name x px] e pos) (lEnv L)) Q E ⟨h, g, d, t, os⟩ := by
  refine wpAny_Assign_Name (wpAny_mono he (fun v s₁ h₁ => ?_) fun _ _ z => z) hs
  obtain ⟨h₁, t₁, m₁, cm₁, F₁, rfl, B₁, W₁, k⟩ := h₁
  obtain ⟨hcell, hcf⟩ := W₁.cl x c hc
  refine wpAny_storeName_cell (by rfl) hk hc hcell fun h₂ hv hs => ?_
  refine k h₂ t₁ (below_retX (X := [c]) B₁ (fun a ma => by rw [List.mem_singleton.mp ma]; exact ⟨hcb, by rw [fr_cons rfl]; exact hcf⟩) (.of_but hs.extBut (by simp))) (W₁.setC hc (lawCells_inj L hc) hs hv) (.of_but hs.extBut (by simp))
/-- x = e, x a local -/
theorem asgL {x : Str} {px pos : Pos} {e : Expr} {Q : Flow → Shared → Prop} (hk : (lEnv L).kindOf x = some .local)
    (he : wpAny (model prog w) A (eval e (lEnv L)) (fun v s₁ => Ex5 fun h₁ t₁ m₁ cm₁ F₁ => s₁ = ⟨h₁, g, d, t₁, os⟩ ∧ Below A hb (lEnv L :: outer) h₁ ∧ Law prog w (L :: fr outer) L (lawCells L) m₁ cm₁ F₁ h₁ ∧
      (∀ h₂ t₂, Below A hb (lEnv L :: outer) h₂ → Law prog w (L :: fr outer) L (lawCells L) (fun z => if z = x then some v else m₁ z) cm₁ F₁ h₂ → Ret [L] (L :: fr outer) h₁ h₂ → Q .next ⟨h₂, g, d, t₂, os⟩)) E ⟨h, g, d, t, os⟩) (hs : swapsWith e (some (.Name x px)) pos.line (lEnv L) = pure false := by rfl) :
    wpAny (model prog w) A (exec (.Assign [.Name x px] e pos) (lEnv L)) Q E ⟨h, g, d, t, os⟩ := by
  refine wpAny_Assign_Name (wpAny_mono he (fun v s₁ h₁ => ?_) fun _ _ z => z) hs
  obtain ⟨h₁, t₁, m₁, cm₁, F₁, rfl, B₁, W₁, k⟩ := h₁
  refine wpAny_storeName_local hk W₁.ns (fun h₂ hn hs => ?_) (by rfl)
  exact k h₂ _ (below_same B₁ (fr_there B₁.frames (by rw [fr_cons rfl]; exact .head _)).1 hs hn) (W₁.setL (.head _) hs hn) (.of_but hs.extBut (by simp))
end
end Mine
end

section
open PySem PySem.W PyProof.Rows
set_option maxRecDepth 100000
set_option maxHeartbeats 4000000
namespace Mine
open PySem PySem.Spec PySem.Calls PyProof.Rows PySem.W

section
variable {w : World} {mg mb : Str → Option Value} {hb : Heap} {prog : Program} {A : Around} {outer : List Env} {E : Value → Shared → Prop} {h : Heap} {g : Array GenState} {d : Drawn} {t : Nat} {os : OsState} {L : Addr} {m cm : Str → Option Value} {F : List Fact}

theorem Law.retL {prog : Program} {w : World} {fs : List Addr} {L : Addr} {cells : List (Str × Addr)} {m m' cm : Str → Option Value} {F : List Fact} {h h' : Heap} {X : List Addr}
    (x : Law prog w fs L cells m cm F h) (r : Ret X fs h h') (f : Free fs h X) (hn : h'.Ns L m') (hc : ∀ n c, cells.lookup n = some c → c ∉ X) : Law prog w fs L cells m' cm F h' :=
  ⟨hn, fun n c e => ⟨cell_ret (x.cl n c e).1 r (hc n c e) (x.cl n c e).2, (x.cl n c e).2⟩, fun q mq => Fact.free (x.fa q mq) r f⟩
theorem partS {M : Model} {A : Around} {s : Shared} {env : Env} {e : Expr} {Q : Value → Shared → Prop} (h : wpAny M A (eval e env) Q E s) : wpAny M A (evalPart (some e) env) Q E s := h
theorem partN {M : Model} {A : Around} {s : Shared} {env : Env} {Q : Value → Shared → Prop} (h : Q .none s) : wpAny M A (evalPart none env) Q E s := wpAny_pure h
theorem fs_of {env : Env} (B : Below A hb (env :: outer) h) (hf : env.frame = some L) : ∀ b ∈ L :: fr outer, ∃ o, h.get? b = some o := fun b mb => by
  obtain ⟨_, o, e, _⟩ := fr_there B.frames (a := b) (by rw [fr_cons hf]; exact mb)
  exact ⟨o, e⟩

theorem fn_of {env : Env} {a : Addr} (B : Below A hb (env :: outer) h) (hf : env.frame = some L) (e : h.get? a = none) : a ∉ L :: fr outer := by
  have := fresh_notin B.frames e; rwa [fr_cons hf] at this
theorem br_of {env : Env} {h' : Heap} (B : Below A hb (env :: outer) h) (hf : env.frame = some L) (r : Ret [] (L :: fr outer) h h') : Below A hb (env :: outer) h' := below_ret B (by rw [fr_cons hf]; exact r)

/-- y = [e(k, x) for k, x in enumerate(l)] -/
theorem asgE {y x x₂ : Str} {py px px₂ tp pos spos : Pos} {kk : Nat} {elt iter : Expr} {scope : Scope} {cl : List (Str × Addr)} {Q : Flow → Shared → Prop} (f : Nat → Int → Int)
    (hy : (lEnv L).kindOf y = some .local) (hclos : closureFor scope (lEnv L) = pure cl) (hcell : ∀ y ∈ scope.names, y.2 ≠ .cell) (hkind : scope.kind = .function)
    (hnames : ∀ y ∈ scope.names, y.2 = .local → scope.names.lookup y.1 = some .local) (hx : scope.names.lookup x = some .local) (hx₂ : scope.names.lookup x₂ = some .local) (hxx : x ≠ x₂) (hh : A.handled = none)
    (he : wpAny (model prog w) A (eval iter (lEnv L)) (fun xv s₁ => ∃ e it l old vs, Ex6 fun (ns : List Int) h₁ t₁ m₁ cm₁ F₁ => xv = .ref e ∧ s₁ = ⟨h₁, g, d, t₁, os⟩ ∧ Below A hb (lEnv L :: outer) h₁ ∧ Law prog w (L :: fr outer) L (lawCells L) m₁ cm₁ F₁ h₁ ∧
      IsEnum h₁ e it 0 old ∧ h₁.IsListIter it l 0 ∧ LS h₁ l vs ∧ IntsAre vs ns ∧ e ≠ it ∧ l ≠ e ∧ l ≠ it ∧ ns.length ≤ 1000 ∧ e ∉ L :: fr outer ∧ it ∉ L :: fr outer ∧ l ∉ L :: fr outer ∧ hb.get? e = none ∧ hb.get? it = none ∧
      (∀ C i n t t' s₃ m₃ E', ns[i]? = some n → s₃.heap.Ns C m₃ → m₃ x = some (.int ((i : Nat) : Int) t) → m₃ x₂ = some (.int n t') → Ret [e, it] (L :: fr outer) h₁ s₃.heap →
        wpAny (model prog w) A (eval elt (compEnvC scope cl C (lEnv L))) (fun y s₄ => Ex3 fun h₄ tk₄ t' => s₄ = { s₃ with heap := h₄, toks := tk₄ } ∧ Ret [] (L :: fr outer) s₃.heap h₄ ∧ y = .int (f i n) t') E' s₃) ∧
      (∀ D h₂ t₂, Ret [e, it, L] (L :: fr outer) h₁ h₂ → IL (L :: fr outer) h₂ D ((List.range ns.length).map fun i => f i (ns.getD i 0)) → h₂.Ns L (fun z => if z = y then some (.ref D) else m₁ z) → h₁.get? D = none → Q .next ⟨h₂, g, d, t₂, os⟩)) E ⟨h, g, d, t, os⟩)
    (hs : ∀ x, foldedSetIterable iter (lEnv L) x = pure x := by intro _; rfl)
    (hsw : swapsWith (.ListComp elt [⟨.Tuple [.Name x px, .Name x₂ px₂] kk tp, iter, [], 0⟩] scope pos) (some (.Name y py)) spos.line (lEnv L) = pure true := by rfl) :
    wpAny (model prog w) A (exec (.Assign [.Name y py] (.ListComp elt [⟨.Tuple [.Name x px, .Name x₂ px₂] kk tp, iter, [], 0⟩] scope pos) spos) (lEnv L)) Q E ⟨h, g, d, t, os⟩ := by
  rw [exec_Assign_Name_used _ _ _ _ hsw]
  refine wpAny_bind (wpAny_standAt (wpAny_bind ?_))
  rw [arm_evalThenUse_ListComp]
  refine wpAny_bind ?_
  refine wpAny_mono (ecompG (use := some (assign (.Name y py) (lEnv L))) (fs := L :: fr outer) (Q := fun _ s' => Q .next s') f hclos hcell hkind hnames hx hx₂ hxx hh (wpAny_mono he (fun xv s₁ h₁ => ?_) fun _ _ z => z) hs) (fun _ s' h' => wpAny_pure (wpAny_pure h')) fun _ _ z => z
  obtain ⟨e, it, l, old, vs, ns, h₁, t₁, m₁, cm₁, F₁, rfl, rfl, B₁, W₁, he, hit, hl, hi, n1, n2, n3, hz, ef, itf, lf, hbe, hbi, helt, k⟩ := h₁
  refine ⟨e, it, l, old, vs, ns, rfl, he, hit, hl, hi, n1, n2, n3, hz, ?_, ef, itf, lf, helt, fun D C h₂ tk₂ m' hDn hCn hDC hnC hD r => ?_⟩
  · intro b mb
    obtain ⟨_, o, e, _⟩ := fr_there B₁.frames (a := b) (by rw [fr_cons rfl]; exact mb)
    exact ⟨o, e⟩
  have hnL : h₂.Ns L m₁ := r.ns W₁.ns (by
    obtain ⟨_, oL, eL, _⟩ := fr_there B₁.frames (a := L) (by rw [fr_cons rfl]; exact .head _)
    simp
    exact ⟨fun q => ef (q ▸ .head _), fun q => itf (q ▸ .head _)⟩)
  show wpAny _ _ (assign (.Name y py) (lEnv L) (.ref D)) _ _ _
  refine wpAny_assign_Name (wpAny_storeName_local hy hnL (fun h₃ hn₃ hs₃ => ?_) (by rfl))
  have hLn : ∃ o, h₁.get? L = some o := by obtain ⟨o, _, _, e, _⟩ := W₁.ns; exact ⟨o, e⟩
  have hCL : C ≠ L := by rintro rfl; obtain ⟨o, e⟩ := hLn; rw [hCn] at e; cases e
  have hDL : D ≠ L := by rintro rfl; obtain ⟨o, e⟩ := hLn; rw [hDn] at e; cases e
  refine ⟨m', hnC.sameBut hs₃ hCL, fun h₄ hs₄ => ?_⟩
  refine k D h₄ _ ?_ ((hD.at fun o e => hs₃.extBut D o hDL e).at fun o e => hs₄.extBut D o hDC e) (hn₃.sameBut hs₄ (Ne.symm hCL)) hDn
  refine ((((r.wide (Y := [e, it, L, C]) (by simp)).trans (.of_but hs₃.extBut (by simp))).trans (.of_but hs₄.extBut (by simp)))).less ?_
  intro b mb
  simp at mb
  rcases mb with rfl | rfl | rfl | rfl
  · exact .inl (by simp)
  · exact .inl (by simp)
  · exact .inl (by simp)
  · exact .inr hCn

/-- the law's first five statements -/
theorem seg_A {l : Addr} {ns : List Int} {Q : Flow → Shared → Prop} (H : Bs w mg mb hb) (B : Below A hb (lEnv L :: outer) h) (hh : A.handled = none) (hd : A.depth + 40 < recursionLimit)
    (W : Law prog w (L :: fr outer) L (lawCells L) m cm F h) (ms : m "script" = some (.ref l)) (hl : Fact.il l ns ∈ F) (hz : ns.length ≤ 63) (hcb : ∀ i : Nat, hb.get? (L + (i + 1) : Nat) = none)
    (k : ∀ h' t' m' cm' aO aR (ns3 : List Int) (total : Int), ns3.length = 3 → Below A hb (lEnv L :: outer) h' →
      Law prog w (L :: fr outer) L (lawCells L) m' cm' [.il aO ((ns3.map fun x => x.fmod 256).take ((3 + total.fdiv 720).fmod 4).toNat), .il aR (rowL total)] h' →
      cm' "octets" = some (.ref aO) → cm' "row" = some (.ref aR) → Ret (XC L) (L :: fr outer) h h' → wpAny (model prog w) A (execs (lawB.drop 5) (lEnv L)) Q E ⟨h', g, d, t', os⟩) :
    wpAny (model prog w) A (execs lawB (lEnv L)) Q E ⟨h, g, d, t, os⟩ := by
  have hfs := fs_of B rfl
  have eB : lawB = _ :: _ := rfl
  rw [eB]; clear eB
  have hLf : L ∈ L :: fr outer := .head _
  have hil : IL (L :: fr outer) h l ns := W.fa _ hl
  obtain ⟨vs, lls, lia, lnf⟩ := id hil
  refine wpQS ?_
  intro Q₀ s₀
  refine wpAny_execs_cons (asgC (hb := hb) (outer := outer) rfl rfl (icomp (cl := []) (fs := L :: fr outer) (fun _ => true) (fun x => x.fmod 1073741824) rfl (by decide) rfl (by decide) rfl (Sub_slice ?_)) (hcb 0))
  refine gL W.ns ms (partN ?_)
  refine partS (wpAny_Constant_int (partN ?_))
  refine ⟨l, vs, _, _, _, rfl, lls, by rw [lia.length, sizeLine_eq]; omega, .none, .int _ _, .none, by decide, fun D₁ h₁ k₁ hD₁n hD₁ => ?_⟩
  show Ex4 fun n item F0 ns => _
  have W₁ := W.stays k₁
  have B₁ := below_kept B k₁
  have hp₁ := lia.pick none (some 60) none
  generalize pickNums ns none (some 60) none = ns₁ at hp₁
  have hz₁ : (slicePick vs.toArray none (some 60) none).toList.length ≤ 63 := by
    have := slicePick_size_le vs.toArray none (some 60) none
    have e := lia.length; simp only [List.size_toArray] at this; rw [Array.length_toList]; omega
  generalize (slicePick vs.toArray none (some 60) none).toList = vs₁ at *
  refine ⟨vs₁.length, _, [D₁], ns₁, Src.list hh hD₁ (fn_of B rfl hD₁n) (fs_of B₁ rfl), hp₁.length.symm, fun i v e => ?_, by walk_at "o", fs_of B₁ rfl, ?_, ?_, ?_⟩
  · obtain ⟨n, t, rfl, e'⟩ := ints_at hp₁ e; exact ⟨n, t, e', rfl⟩
  · intro C kk tt s₃ m₃ E' _ _ _ _
    exact tests0 ⟨rfl, s₃.heap, s₃.toks, rfl, .refl⟩
  · intro C kk tt s₃ m₃ E' _ _ hnC hm r
    exact wpAny_BinOp (gL hnC hm (wpAny_Constant_int (mod_int (by decide) ⟨s₃.heap, _, _, rfl, .refl, rfl⟩)))
  intro D₂ h₂ t₂ hD₂n hD₂ r₂
  refine ⟨h₂, t₂, _, _, _, rfl, br_of B₁ rfl r₂, (W₁.ret0 r₂).add (f := .il D₂ _) hD₂, fun h₃ t₃ B₃ W₃ r₃ => ?_⟩
  have R₃ : Ret (XC L) (L :: fr outer) h h₃ := ((Ret.of_stays k₁).trans (r₂.wide (by simp))).trans (r₃.wide (by simp))
  clear r₂ r₃ W₁ W k₁ hD₁ hD₂ hD₂n hD₁n B₁ B lls hil hfs
  dsimp only
  -- numbers
  have dI : Fact.ok prog w (L :: fr outer) h₃ (.il D₂ (List.map (fun x => x.fmod 1073741824) (List.filter (fun x => true) ns₁))) := W₃.fa _ (by simp)
  generalize hdn : List.map (fun x => x.fmod 1073741824) (List.filter (fun x => true) ns₁) = dn at *
  have hdl : dn.length ≤ 63 := by rw [← hdn, List.length_map]; exact Nat.le_trans (List.length_filter_le _ _) (by rw [← hp₁.length]; exact hz₁)
  refine wpQS ?_
  intro Q₀ s₀
  refine wpAny_execs_cons (asgE (hb := hb) (outer := outer) (cl := [("drawn", L + 1)]) (fun i x => x + (pickNums dn (some (i : Int)) none (some 3)).sum) rfl rfl (by decide) rfl (by decide) rfl rfl (by decide) hh ?_)
  refine Call_of rfl (gB (v := .type "enumerate") H B₃.stays (by kernel_rfl) (by kernel_rfl) (sp1 (Disp (sp1 (wpAny_Constant_int (sp1 (wpAny_Constant_int (sp1 (wpAny_Constant_int (sp0 ⟨by simp [sizeLine_eq], fun N₁ h₄ k₄ hN₁n hN₁ => sp0 ⟨keeps_type, ?_⟩⟩))))))))))
  refine call_enumerate_list hN₁.il fun h₅ hE hI hsz k₅ => ?_
  have hen : h₄.get? (h₄.objs.size + 1) = none := Heap.get?_none_of_le (Nat.le_succ _)
  have hin : h₄.get? h₄.objs.size = none := Heap.get?_none_of_le (Nat.le_refl _)
  have hlt : N₁ < h₄.objs.size := hN₁.lt
  have n1 : h₄.objs.size + 1 ≠ h₄.objs.size := by walk_at "o"
  have n2 : N₁ ≠ h₄.objs.size + 1 := Nat.ne_of_lt (Nat.lt_succ_of_lt hlt)
  have n3 : N₁ ≠ h₄.objs.size := Nat.ne_of_lt hlt
  show ∃ e it l old vs, Ex6 fun ns h₁ t₁ m₁ cm₁ F₁ => _
  dsimp only at hE hI hen hin hlt n1 n2 n3
  generalize h₄.objs.size + 1 = en at *
  generalize h₄.objs.size = it at *
  have B₄ := below_kept B₃ k₄
  have B₅ := below_kept B₄ k₅
  have W₅ := (W₃.stays k₄).stays k₅
  refine ⟨en, it, N₁, _, _, _, h₅, _, _, _, _, rfl, rfl, B₅, W₅, hE, hI, hN₁.at (k₅ _), .cons 101652 _ (.cons 102 _ (.cons 7 _ .nil)), n1, n2, n3, by decide, fn_of B₄ rfl hen, fn_of B₄ rfl hin, fn_of B₃ rfl hN₁n, stays_none B₄.stays hen, stays_none B₄.stays hin, ?_, ?_⟩
  · intro C i n t1 t2 s₃ m₃ E' hn hnC hmk hmo r
    have Fr5 : Free (L :: fr outer) h₄ [en, it] := fun b mb => by simp at mb; rcases mb with rfl | rfl; exact .inr (.inl hen); exact .inr (.inl hin)
    have r₄ : Ret [en, it] (L :: fr outer) h₄ s₃.heap := (Ret.of_stays k₅).trans r
    have ne4 : ∀ {b : Addr}, (∃ o, h₄.get? b = some o) → b ∉ [en, it] := fun ⟨o, e⟩ mb => by simp at mb; rcases mb with rfl | rfl; rw [hen] at e; cases e; rw [hin] at e; cases e
    have W' := (W₃.stays k₄).ret r₄ Fr5 (ne4 (by obtain ⟨o, _, _, e, _⟩ := (W₃.stays k₄).ns; exact ⟨o, e⟩)) (fun n c e => ne4 (by obtain ⟨o, q, _⟩ := ((W₃.stays k₄).cl n c e).1; exact ⟨o, q⟩))
    have kb' : hb.StaysIn s₃.heap := fun b o e => r₄.keep b o (ne4 ⟨o, B₄.stays _ _ e⟩) (fun mb => by
      have := (fr_there B₄.frames (a := b) (by rw [fr_cons rfl]; exact mb)).1; rw [this] at e; cases e) (B₄.stays _ _ e)
    obtain ⟨dv, dls, dia, dnf⟩ : IL (L :: fr outer) s₃.heap D₂ dn := W'.fa (.il D₂ dn) (by simp)
    have hcell : s₃.heap.IsCell (L + 1) (some (.ref D₂)) := (W'.cl "drawn" (L + 1) rfl).1
    refine wpAny_BinOp (gL hnC hmo (Call_of rfl (gB (v := .builtin "sum") H kb' (by kernel_rfl) (by kernel_rfl) (sp1 (Sub_slice ?_)))))
    refine gC rfl hcell (partS (gL hnC hmk (partN (partS (wpAny_Constant_int ?_)))))
    refine ⟨D₂, dv, _, _, _, rfl, dls, by rw [dia.length, sizeLine_eq]; omega, .int _ _, .none, .int _ _, by decide, fun D₅ h₆ k₆ hD₅n hD₅ => ?_⟩
    refine sp0 ⟨keeps_builtin, sum_ll hh hD₅ (dia.pick _ _ _) fun h₇ tk₇ t₇ k₇ => ?_⟩
    exact add_int ⟨h₇, _, _, rfl, .of_stays fun b o e => k₇ _ _ (k₆ _ _ e), rfl⟩
  · intro D₆ h₆ t₆ r₆ hD₆ hn₆ hD₆n
    have r₄ : Ret [en, it, L] (L :: fr outer) h₄ h₆ := (Ret.of_stays k₅).trans r₆
    have W₆ := (W₃.stays k₄).retL (m' := fun z => if z = Str.ofString "numbers" then some (Value.ref D₆) else m z) r₄ (fun b mb => by
      simp only [List.mem_cons, List.not_mem_nil, or_false] at mb
      rcases mb with rfl | rfl | rfl
      · exact .inr (.inl hen)
      · exact .inr (.inl hin)
      · exact .inl (.head _)) hn₆ (fun n c e mb => by
        obtain ⟨⟨o, q, _⟩, cf⟩ := (W₃.stays k₄).cl n c e
        simp only [List.mem_cons, List.not_mem_nil, or_false] at mb
        rcases mb with rfl | rfl | rfl
        · rw [hen] at q; cases q
        · rw [hin] at q; cases q
        · exact cf (.head _))
    have W₆ := W₆.add (f := .il D₆ _) hD₆
    have r₄' : Ret [L] (L :: fr outer) h₄ h₆ := r₄.less (by
      intro a ma; simp only [List.mem_cons, List.not_mem_nil, or_false] at ma
      rcases ma with rfl | rfl | rfl
      · exact .inr hen
      · exact .inr hin
      · exact .inl (.head _))
    have R₆ : Ret (XC L) (L :: fr outer) h h₆ := (R₃.trans (.of_stays k₄)).trans (r₄'.wide (by simp))
    have B₆ : Below A hb (lEnv L :: outer) h₆ := below_upd (X := []) B₄ r₄' hn₆ (fr_there B₄.frames (by rw [fr_cons rfl]; exact .head _)).1 (by simp)
    generalize hn3 : List.map (fun i => [101652, 102, 7].getD i 0 + (pickNums dn (some ((i : Nat) : Int)) none (some 3)).sum) (List.range [(101652 : Int), 102, 7].length) = ns3 at *
    have hl3 : ns3.length = 3 := by rw [← hn3]; rfl
    clear hn3 W₅ B₅ hn₆ hD₆ r₆ r₄ r₄' k₅ k₄ R₃ hE hI hN₁ W₃ B₃ B₄ dI hN₁n hen hin hlt hsz
    dsimp only
    have t0 : ∀ {ifs : List Expr} {C : Addr} {env' : Env} {s₃ : Shared} {E' : Value → Shared → Prop}, wpAny (model prog w) A (testsOf [] env') (fun ok s₄ => ok = true ∧ Ex2 fun h₄ tk₄ => s₄ = { s₃ with heap := h₄, toks := tk₄ } ∧ Ret [] (L :: fr outer) s₃.heap h₄) E' s₃ := fun {_ _ _ s₃ _} => tests0 ⟨rfl, s₃.heap, s₃.toks, rfl, .refl⟩
    -- total
    have hsum : ∀ {Q' : Value → Shared → Prop} {E' : Value → Shared → Prop} {s' : Shared} {D : Addr} {ns : List Int}, IL (L :: fr outer) s'.heap D ns → (∀ h' tk t, s'.heap.StaysIn h' → Q' (.int ns.sum t) { s' with heap := h', toks := tk }) → wpAny (model prog w) A (call (.builtin "sum") [.ref D]) Q' E' s' := fun ⟨vs, ls, ia, _⟩ k => sum_ll hh ls ia k
    refine wpQS ?_
    intro Q₀ s₀
    refine wpAny_execs_cons (asgL (hb := hb) (outer := outer) rfl (Call_of rfl (gB (v := .builtin "sum") H B₆.stays (by kernel_rfl) (by kernel_rfl) (sp1 (icompL (cl := []) (fs := L :: fr outer) (fun _ => true) (fun x => x.fdiv 256) rfl (by decide) rfl (by decide) rfl hh (gL W₆.ns (by walk_at "m") ?_))))))
    refine ⟨D₆, ns3, rfl, W₆.fa (.il D₆ ns3) (by simp), by walk_at "o", fs_of B₆ rfl, fun C kk tt s₃ m₃ E' _ _ _ _ => tests0 ⟨rfl, s₃.heap, s₃.toks, rfl, .refl⟩, fun C kk tt s₃ m₃ E' _ _ hnC hm r => wpAny_BinOp (gL hnC hm (wpAny_Constant_int (floordiv_int (by decide) ⟨s₃.heap, _, _, rfl, .refl, rfl⟩))), fun D₇ h₇ t₇ hD₇n hD₇ r₇ => ?_⟩
    refine sp0 ⟨keeps_builtin, hsum hD₇ fun h₈ t₈ u₈ k₈ => ?_⟩
    have W₈ := (W₆.ret0 r₇).stays k₈
    have B₈ := below_kept (br_of B₆ rfl r₇) k₈
    refine ⟨h₈, t₈, _, _, _, rfl, B₈, W₈, fun h₉ t₉ B₉ W₉ r₉ => ?_⟩
    have R₉ : Ret (XC L) (L :: fr outer) h h₉ := (R₆.trans ((r₇.trans (.of_stays k₈)).wide (by simp))).trans (r₉.wide (by simp))
    generalize hto : (List.map (fun x => x.fdiv 256) (List.filter (fun x => true) ns3)).sum = total at *
    clear hto W₈ B₈ r₇ k₈ r₉ hD₇ hD₇n R₆ W₆ B₆
    dsimp only
    -- octets
    refine wpQS ?_
    intro Q₀ s₀
    refine wpAny_execs_cons (asgC (hb := hb) (outer := outer) rfl rfl (Sub_slice ?_) (hcb 1))
    refine icompL (cl := []) (fs := L :: fr outer) (fun _ => true) (fun x => x.fmod 256) rfl (by decide) rfl (by decide) rfl hh (gL W₉.ns (by walk_at "m") ?_)
    refine ⟨D₆, ns3, rfl, W₉.fa (.il D₆ ns3) (by simp), by walk_at "o", fs_of B₉ rfl, fun C kk tt s₃ m₃ E' _ _ _ _ => tests0 ⟨rfl, s₃.heap, s₃.toks, rfl, .refl⟩, fun C kk tt s₃ m₃ E' _ _ hnC hm r => wpAny_BinOp (gL hnC hm (wpAny_Constant_int (mod_int (by decide) ⟨s₃.heap, _, _, rfl, .refl, rfl⟩))), fun D₁₀ h₁₀ t₁₀ hD₁₀n hD₁₀ r₁₀ => ?_⟩
    have W₁₀ := W₉.ret0 r₁₀
    have B₁₀ := br_of B₉ rfl r₁₀
    refine partN (partS (wpAny_BinOp (wpAny_BinOp (wpAny_Constant_int (wpAny_BinOp (gL W₁₀.ns (by walk_at "m") (wpAny_Constant_int (floordiv_int (by decide) (add_int (wpAny_Constant_int (mod_int (by decide) (partN ?_)))))))))))) 
    obtain ⟨v₁₀, ls₁₀, ia₁₀, nf₁₀⟩ := hD₁₀
    have hft : List.filter (fun _ : Int => true) ns3 = ns3 := List.filter_eq_self.mpr fun _ _ => rfl
    rw [hft] at ia₁₀
    have h0 : 0 ≤ ((3 : Int) + total.fdiv 720).fmod 4 := Int.fmod_nonneg_of_pos _ (by decide)
    have hcut := slice_ints_uptoW ia₁₀ h0
    refine ⟨D₁₀, v₁₀, _, _, _, rfl, ls₁₀, by rw [ia₁₀.length, sizeLine_eq, List.length_map]; omega, .none, .int _ _, .none, by decide, fun D₁₁ h₁₁ k₁₁ hD₁₁n hD₁₁ => ?_⟩
    show Ex5 fun h₁ t₁ m₁ cm₁ F₁ => _
    have hI₁₁ : IL (L :: fr outer) h₁₁ D₁₁ _ := ⟨_, hD₁₁, hcut, fn_of B₁₀ rfl hD₁₁n⟩
    refine ⟨h₁₁, _, _, _, _, rfl, below_kept B₁₀ k₁₁, (W₁₀.stays k₁₁).add (f := .il D₁₁ _) hI₁₁, fun h₁₂ t₁₂ B₁₂ W₁₂ r₁₂ => ?_⟩
    have R₁₂ : Ret (XC L) (L :: fr outer) h h₁₂ := (R₉.trans ((r₁₀.trans (.of_stays k₁₁)).wide (by simp))).trans (r₁₂.wide (by simp))
    clear r₁₂ k₁₁ R₉ hI₁₁ hD₁₁ hD₁₁n hcut ls₁₀ ia₁₀ nf₁₀ W₁₀ B₁₀ r₁₀ hD₁₀n B₉ W₉
    dsimp only
    -- row
    have f118 : (TopF w.params).lookup 118 = some ⟨_, _, .func (fnX _ _ _ _ _ _ _ _ _ _ _ _ _), _⟩ := rfl
    refine wpQS ?_
    intro Q₀ s₀
    refine wpAny_execs_cons (asgC (hb := hb) (outer := outer) rfl rfl (Call_of rfl (gG (v := .ref 118) H B₁₂.stays (by kernel_rfl) (sp1 (gL W₁₂.ns (by walk_at "m") (sp0 ⟨keeps_func (B₁₂.stays _ _ (H.X _ _ f118)) rfl, ?_⟩))))) (hcb 2))
    refine row_fn H B₁₂ (by walk_at "o") hh fun r h₁₃ t₁₃ hrn hr r₁₃ => ?_
    rw [fr_cons rfl] at r₁₃ hr
    refine ⟨h₁₃, t₁₃, _, _, _, rfl, br_of B₁₂ rfl r₁₃, (W₁₂.ret0 r₁₃).add (f := .il r _) hr, fun h₁₄ t₁₄ B₁₄ W₁₄ r₁₄ => ?_⟩
    have R₁₄ : Ret (XC L) (L :: fr outer) h h₁₄ := (R₁₂.trans (r₁₃.wide (by simp))).trans (r₁₄.wide (by simp))
    refine k h₁₄ t₁₄ _ _ D₁₁ r ns3 total hl3 B₁₄ (W₁₄.only ?_) ?_ ?_ R₁₄
    · intro f mf
      simp only [List.mem_cons, List.not_mem_nil, or_false] at mf ⊢
      rcases mf with rfl | rfl
      · exact .inr (.inl rfl)
      · exact .inl rfl
    · walk_at "m"
    · walk_at "m"
end
end Mine
end

section
open PySem PySem.W PyProof.Rows
set_option maxRecDepth 100000
set_option maxHeartbeats 4000000
namespace Mine
open PySem PySem.Spec PySem.Calls PyProof.Rows PySem.W

section
variable {w : World} {mg mb : Str → Option Value} {hb : Heap} {prog : Program} {A : Around} {outer : List Env} {E : Value → Shared → Prop} {h : Heap} {g : Array GenState} {d : Drawn} {t : Nat} {os : OsState} {s : Shared}

/-- a lambda is made -/
theorem lam_mk {params : Arguments} {body : Expr} {scope : Scope} {pos : Pos} {env : Env} {clos : List (Str × Addr)} {c P : Addr} {ps : Array Value} {Q : Value → Shared → Prop} (H : Bs w mg mb hb) (hbm : Bm mg hb) (kb : hb.StaysIn h)
    (C : CodeHd h c P) (hP : h.get? P = some (tabObj ps)) (ht : TriplesOk ps.toList) (hnf : codeAmong pos ps.toList = none)
    (hdef : defaultsOf params env = ([], [])) (hcl : closureFor scope env = pure clos) (hge : env.globals = mainGlobals) (hcd : env.code = .ref c)
    (k : ∀ f c' ctv pm h' tk, h.get? f = none → h.get? c' = none → h'.get? f = some (kla_obj "<lambda>" (env.qual ++ "<lambda>") params body scope clos pm c' ctv) → h'.CodeRec (.ref c') (env.qual ++ "<lambda>") →
      h'.get? P = some (tabObj (ps ++ #[rawInt pos.line, rawInt pos.col, .ref c'])) → (∀ b o, b ≠ P → h.get? b = some o → h'.get? b = some o) → Q (.ref f) ⟨h', g, d, tk, os⟩) :
    wpAny (model prog w) A (eval (.Lambda params body scope pos) env) Q E ⟨h, g, d, t, os⟩ := by
  obtain ⟨hB, hgP⟩ := hbm.at H.g kb hP
  refine kla_eval hdef (kla_makeFunction hcl hge (H.g.keeps kb) hcd C hP ht hnf hgP hB fun c' ctv h' tk hx hge' hlt hrec htb => ?_)
  refine k h'.objs.size c' ctv _ _ tk (Heap.get?_none_of_le (Nat.le_trans hge' (Nat.le_of_lt hlt))) (Heap.get?_none_of_le hge') (Heap.get?_push_size _ rfl) (rec_at hrec fun o e => Heap.get?_push_of_some _ e) (Heap.get?_push_of_some _ htb) fun b o b1 eb => Heap.get?_push_of_some _ (hx b o b1 eb)

/-- a lambda is entered -/
theorem enterHE {f c' : Addr} {args : List Value} {binds : List (Str × Value)} {name qual : Str} {params : Arguments} {body : Expr} {scope : Scope} {cl : List (Str × Addr)} {pm ctv : Value}
    {R : Result → Shared → Prop}
    (H : Bs w mg mb hb) (B : Below A hb outer s.heap) (hroom : A.depth < recursionLimit)
    (ho : s.heap.get? f = some (kla_obj name qual params body scope cl pm c' ctv)) (hcd : s.heap.CodeRec (.ref c') qual)
    (hbind : bindArgs (kla_fn name qual params body scope cl pm (.ref c') ctv) ⟨args, []⟩ = pure binds) (hloc : ∀ y ∈ binds, scope.names.lookup y.1 = some .local)
    (hcell : ∀ x ∈ scope.names, x.2 ≠ .cell)
    (h : ∀ L h₁, L = s.heap.objs.size → h₁.Ns L (fun y => binds.reverse.lookup y) → s.heap.StaysIn h₁ → Below (A.deeper (envX qual scope L f (.ref c') cl)) hb (envX qual scope L f (.ref c') cl :: outer) h₁ →
      wpAny (model prog w) (A.deeper (envX qual scope L f (.ref c') cl)) (eval body (envX qual scope L f (.ref c') cl))
        (fun v s' => R (.ok (.ret v)) s')
        (fun e s' => wpAny (model prog w) (A.deeper (envX qual scope L f (.ref c') cl)) (leaving (envX qual scope L f (.ref c') cl) e) (fun _ s'' => R (.error e) s'') (fun e' s'' => R (.error e') s'') s')
        { s with heap := h₁, toks := s.toks + binds.length })
    (hco : scope.isCoroutine = false := by rfl) (hgen : scope.isGenerator = false := by rfl) (hk : scope.kind = .function := by rfl) :
    codeAny (model prog w) A (.call (.ref f) ⟨args, []⟩) R s := by
  refine kla_callFunE hroom ho rfl hco hgen rfl hcd ?_
  rw [hbind]
  refine wpAny_pure (wpAny_newFunctionEnv hcell hloc (fun h₁ hns hsb => ⟨(H.lim.keeps B.stays).fresh _ hsb, ?_⟩) hk)
  show codeAny _ _ (.expr body (envX qual scope s.heap.objs.size f (.ref c') cl)) _ _
  have hk₁ : s.heap.StaysIn h₁ := fun b o e => hsb.extBut b o (Nat.ne_of_lt (Heap.lt_size e)) (Heap.get?_push_of_some _ e)
  exact kla_codeExpr (h _ h₁ rfl hns hk₁ (below_push B rfl (by show scope.kind ≠ _; rw [hk]; decide) rfl hk₁ hns))

theorem dict_gi' : typeLookup (.type "dict") "__getitem__" = pure (some (.builtin "dict.__getitem__")) := by rw [typeLookup_type, builtinLookup_eq_fast]; kernel_rfl
/-- d[k] -/
theorem Sub_di {value slice : Expr} {env : Env} {pos : Pos} {Q : Value → Shared → Prop}
    (x : wpAny (model prog w) A (eval value env) (fun o s₁ => wpAny (model prog w) A (eval slice env) (fun i s₂ => Ex6 fun fs a gg k u n => o = .ref a ∧ i = .int k u ∧ DI prog w fs s₂.heap a gg ∧ gg k = some n ∧ ∀ t, Q (.int n t) { s₂ with toks := s₂.toks + 1 }) E s₁) E s) :
    wpAny (model prog w) A (eval (.Subscript value slice pos) env) Q E s := by
  refine Subscript_ (wpAny_mono x (fun o s₁ h₁ => wpAny_mono h₁ (fun i s₂ h₂ => ?_) fun _ _ e => e) fun _ _ e => e)
  obtain ⟨fs, a, gg, k, u, n, rfl, rfl, ⟨_, kvs, hd, hg⟩, e, q⟩ := h₂
  obtain ⟨t, ht⟩ := hg k n e
  exact SubTail hd.mapOf.typeIs dict_gi' (wpAny_getItem_of (knd := intKind prog w) (k := k) (by simp [intKind, Value.isInt]) hd.mapOf ht (q t))

/-- what the comparison's J says -/
structure LamJ (prog : Program) (w : World) (gg : Int → Option Int) (lam c' cp pl : Addr) (name qual : Str) (params : Arguments) (body : Expr) (scope : Scope) (cl : List (Str × Addr)) (pm ctv : Value) (fs : List Addr) (h : Heap) : Prop where
  ho : h.get? lam = some (kla_obj name qual params body scope cl pm c' ctv)
  hof : lam ∉ fs
  cd : h.CodeRec (.ref c') qual
  cdf : c' ∉ fs
  ce : h.IsCell cp (some (.ref pl))
  cef : cp ∉ fs
  di : DI prog w fs h pl gg
section
variable {gg : Int → Option Int} {lam c' cp pl : Addr} {name qual : Str} {params : Arguments} {body : Expr} {scope : Scope} {cl : List (Str × Addr)} {pm ctv : Value} {fs X : List Addr} {h' : Heap}
theorem LamJ.ret (x : LamJ prog w gg lam c' cp pl name qual params body scope cl pm ctv fs h) (r : Ret X fs h h') (f : Free fs h X) (n1 : lam ∉ X) (n2 : c' ∉ X) (n3 : cp ∉ X) : LamJ prog w gg lam c' cp pl name qual params body scope cl pm ctv fs h' :=
  ⟨r.keep _ _ n1 x.hof x.ho, x.hof, rec_at x.cd fun o e => r.keep _ _ n2 x.cdf e, x.cdf, cell_ret x.ce r n3 x.cef, x.cef, x.di.free r f⟩
theorem LamJ.ret0 (x : LamJ prog w gg lam c' cp pl name qual params body scope cl pm ctv fs h) (r : Ret [] fs h h') : LamJ prog w gg lam c' cp pl name qual params body scope cl pm ctv fs h' := x.ret r .nil (by simp) (by simp) (by simp)
theorem LamJ.under {L : Addr} (x : LamJ prog w gg lam c' cp pl name qual params body scope cl pm ctv fs h) (hL : h.get? L = none) (k : h.StaysIn h') : LamJ prog w gg lam c' cp pl name qual params body scope cl pm ctv (L :: fs) h' := by
  have y := x.ret0 (.of_stays k)
  have nx : ∀ {b : Addr}, (∃ o₁, h.get? b = some o₁) → b ∉ fs → b ∉ L :: fs := fun ⟨_, e⟩ nf m => by
    rcases List.mem_cons.mp m with rfl | m
    · rw [hL] at e; cases e
    · exact nf m
  refine ⟨y.ho, nx ⟨_, x.ho⟩ x.hof, y.cd, nx ?_ x.cdf, y.ce, nx ?_ x.cef, nx ?_ x.di.1, y.di.2⟩
  · obtain ⟨_, oc, _, _, e, ho, _⟩ := x.cd; cases e; exact ⟨_, ho⟩
  · obtain ⟨o, e, _⟩ := x.ce; exact ⟨_, e⟩
  · obtain ⟨_, _, ⟨o', es, ep, e', _⟩, _⟩ := x.di; exact ⟨_, e'⟩
end

noncomputable def bodyA : Stmt → Expr | .Assign _ e _ => e | _ => .Constant .none 0 ⟨0,0,0,0⟩
noncomputable def argsE : Expr → List Expr | .Call _ a _ _ => a | _ => []
noncomputable def lamBody : Expr → Expr | .Lambda _ b _ _ => b | e => e
noncomputable def lamPar : Expr → Arguments | .Lambda p _ _ _ => p | _ => ⟨[], [], none, [], [], none, []⟩
noncomputable def lamSc : Expr → Scope | .Lambda _ _ s _ => s | _ => lawSc
end
end Mine
end

section
open PySem PySem.W PyProof.Rows
set_option maxRecDepth 100000
set_option maxHeartbeats 4000000
namespace Mine
open PySem PySem.Spec PySem.Calls PyProof.Rows PySem.W

noncomputable def kwE : Expr → Expr | .Call _ _ [k] _ => k.value | e => e
noncomputable def funE : Expr → Expr | .Call f _ _ _ => f | e => e
noncomputable def cmpLam : Expr := (argsE (kwE (bodyA (nth lawB 6)))).headD (.Constant .none 0 ⟨0,0,0,0⟩)

section
variable {w : World} {mg mb : Str → Option Value} {hb : Heap} {prog : Program} {A : Around} {outer : List Env} {E : Value → Shared → Prop} {h : Heap} {g : Array GenState} {d : Drawn} {t : Nat} {os : OsState} {s : Shared}

/-- the comparison -/
theorem cmp_lam {gg : Int → Option Int} {gv : Int → Int} {lam c' cp pl : Addr} {name qual : Str} {pm ctv : Value} (H : Bs w mg mb hb) (hg : ∀ k, 0 ≤ k → k < 6 → gg k = some (gv k) ∧ 0 ≤ gv k ∧ gv k < 6) :
    Cmp2 prog w hb lam (LamJ prog w gg lam c' cp pl name qual (lamPar cmpLam) (lamBody cmpLam) (lamSc cmpLam) [("place", cp)] pm ctv) (fun a b => 3 * (gv a - gv b)) 1 0 := by
  intro A outer s Q E n₁ n₂ t₁ t₂ B hd hh hu J a1 a2 b1 b2 k
  refine wpAny_call (enterHE (outer := outer) (binds := [("one", .int n₁ t₁), ("other", .int n₂ t₂)]) H B (by walk_at "o") J.ho J.cd rfl (locs rfl) (by decide +kernel) (fun L h₁ hL hn k₁ B₁ => ?_) rfl rfl rfl)
  have eB : lamBody cmpLam = .BinOp _ _ _ _ := rfl
  rw [eB]; clear eB
  have J₁ := J.ret0 (.of_stays k₁)
  obtain ⟨e1, p1, p2⟩ := hg n₁ a1 a2
  obtain ⟨e2, p3, p4⟩ := hg n₂ b1 b2
  refine wpAny_BinOp (wpAny_Constant_int (wpAny_BinOp (Sub_di (gF (c := cp) rfl J₁.ce (gL hn (by walk_at "m") ⟨_, pl, gg, n₁, t₁, gv n₁, rfl, rfl, J₁.di, e1, fun u₁ => ?_⟩)))))
  refine Sub_di (gF (c := cp) rfl J₁.ce (gL hn (by walk_at "m") ⟨_, pl, gg, n₂, t₂, gv n₂, rfl, rfl, J₁.di, e2, fun u₂ => ?_⟩))
  refine sub_int (mul_int ?_ ?_)
  · exact k h₁ _ _ (.of_stays k₁)
  · mul_fits
end
end Mine
end

section
open PySem PySem.W PyProof.Rows
set_option maxRecDepth 100000
set_option maxHeartbeats 4000000
namespace Mine
open PySem PySem.Spec PySem.Calls PyProof.Rows PySem.W

noncomputable def gvR (row : List Int) (k : Int) : Int := ((row.idxOf k : Nat) : Int)
noncomputable def placeG (row : List Int) (k : Int) : Option Int := if k ∈ row then some (gvR row k) else none
structure RowOk (row : List Int) : Prop where
  len : row.length = 6
  inj : ∀ i j, i < 6 → j < 6 → row.getD i 0 = row.getD j 0 → i = j
  rg : ∀ x ∈ row, 0 ≤ x ∧ x < 6
  all : ∀ k, 0 ≤ k → k < 6 → k ∈ row
  ok : kok (fun i j => decide (3 * (gvR row i - gvR row j) < 0)) 6 (kas_sort 6) = true
  ev : (kev (fun i j => decide (3 * (gvR row i - gvR row j) < 0)) (kas_sort 6)).toList.map (fun i => ((i : Nat) : Int)) = row
theorem RowOk.gv {row : List Int} (x : RowOk row) {k : Int} (h0 : 0 ≤ k) (h1 : k < 6) : placeG row k = some (gvR row k) ∧ 0 ≤ gvR row k ∧ gvR row k < 6 := by
  have hm := x.all k h0 h1
  have hl : row.idxOf k < row.length := List.idxOf_lt_length_iff.mpr hm
  rw [x.len] at hl
  refine ⟨if_pos hm, ?_, ?_⟩ <;> unfold gvR <;> omega
theorem RowOk.hg {row : List Int} (x : RowOk row) (k m : Int) (e : placeG row k = some m) : ∃ i, i < 6 ∧ k = row.getD i 0 ∧ m = (i : Int) := by
  unfold placeG at e
  by_cases hm : k ∈ row
  · rw [if_pos hm] at e
    have hl : row.idxOf k < row.length := List.idxOf_lt_length_iff.mpr hm
    refine ⟨row.idxOf k, x.len ▸ hl, ?_, (Option.some.inj e).symm⟩
    rw [List.getD_eq_getElem?_getD, List.getElem?_eq_getElem hl]
    simp
  · rw [if_neg hm] at e; cases e

section
variable {w : World} {mg mb : Str → Option Value} {hb : Heap} {prog : Program} {A : Around} {outer : List Env} {E : Value → Shared → Prop} {h : Heap} {g : Array GenState} {d : Drawn} {t : Nat} {os : OsState} {L : Addr} {m cm : Str → Option Value} {F : List Fact}

noncomputable def bytesOf : Expr → Array UInt8 | .Constant (.bytes b) _ _ => b.toArray | _ => #[]
noncomputable def alphaB : Array UInt8 := bytesOf (bodyA (nth lawB 7))
theorem callWith_KWB {M : Model} {s : Shared} {env : Env} {pos : Pos} {id : String} {first : List Value} {Q : Value → Shared → Prop} {e : Expr} {rest : List Expr} {kws : List Keyword} (hall : (backToKw pos (keywordEach kws env)).all (·.1.isSome) = true)
    (h : wpAny M A (spliced (backTo pos (starEach (e :: rest) env))) (fun vs s₁ => wpAny M A (evalAll ((backToKw pos (keywordEach kws env)).map (·.2)))
      (fun ks s₂ => wpAny M A (call (.builtin id) (first ++ vs) (((backToKw pos (keywordEach kws env)).filterMap (·.1)).zip ks)) Q E s₂) E s₁) E s)
    (hplain : ((backTo pos (starEach (e :: rest) env)).any (·.1) || (backToKw pos (keywordEach kws env)).any (·.1.isNone)) = false := by rfl) (he : starEach (e :: rest) env = (false, eval e env) :: starEach rest env := by rfl) :
    wpAny M A (callWith pos (.builtin id) first (backTo pos (starEach (e :: rest) env)) (backToKw pos (keywordEach kws env))) Q E s := by
  refine PySem.W.callWith_of (P := fun _ => True) hplain (fun h _ => ⟨.machine, .inr (.inl rfl), Looks.of_pure rfl⟩) (evalArgs_kw2 hall (wpAny_mono h (fun vs s₁ h₁ => wpAny_mono h₁ (fun ks s₂ h₂ => ⟨trivial, h₂⟩) fun _ _ z => z) fun _ _ z => z) he)
theorem XC_not {P L : Addr} (h : P < L) : P ∉ XC L := by
  intro q
  have h' : (P : Nat) < (L : Nat) := h
  simp only [List.mem_cons, List.not_mem_nil, or_false] at q
  rcases q with q | q | q | q | q | q | q | q | q | q <;> rw [q] at h' <;> exact absurd h' (Nat.not_lt.mpr (by first | exact Nat.le_refl _ | exact Nat.le_add_right _ _))
theorem XC_sub {P L c : Addr} (h : P ∉ XC L) (m : c ∈ XC L) : P ∉ [c] := fun q => by rw [List.mem_singleton.mp q] at h; exact h m
/-- statements 5 to 7 -/
theorem seg_B {aO aR : Addr} {ol row : List Int} {Q : Flow → Shared → Prop} (H : Bs w mg mb hb) (B : Below A hb (lEnv L :: outer) h) (hh : A.handled = none) (hd : A.depth + 40 < recursionLimit) (hu : A.units + 100 < cLine)
    (hbm : Bm mg hb) (C97 : CodeHd hb 101 97) (C139 : CodeHd hb 141 139) (n97' : hb.get? 97 = none) (n139' : hb.get? 139 = none) (T97 : h.get? 97 = some (tabObj #[])) (T139 : h.get? 139 = some (tabObj #[]))
    (f97 : 97 ∉ L :: fr outer) (f139 : 139 ∉ L :: fr outer) (hL : 139 < L)
    (W : Law prog w (L :: fr outer) L (lawCells L) m cm [.il aO ol, .il aR row] h) (co : cm "octets" = some (.ref aO)) (cr : cm "row" = some (.ref aR)) (ro : RowOk row) (hcb : ∀ i : Nat, hb.get? (L + (i + 1) : Nat) = none)
    (k : ∀ h' t' cm' aP aOr c' ta, Below A hb (lEnv L :: outer) h' →
      Law prog w (L :: fr outer) L (lawCells L) m cm' [.il aO ol, .il aR row, .di aP (placeG row), .il aOr row] h' →
      cm' "octets" = some (.ref aO) → cm' "row" = some (.ref aR) → cm' "place" = some (.ref aP) → cm' "order" = some (.ref aOr) → cm' "alphabet" = some (.bytes alphaB ta) → (∃ ps, h'.get? 97 = some (tabObj ps)) → h'.get? 139 = some (tabObj #[rawInt 142, rawInt 44, .ref c']) →
      Ret (XL L) (L :: fr outer) h h' → wpAny (model prog w) A (execs (lawB.drop 8) (lEnv L)) Q E ⟨h', g, d, t', os⟩) :
    wpAny (model prog w) A (execs (lawB.drop 5) (lEnv L)) Q E ⟨h, g, d, t, os⟩ := by
  have hfs := fs_of B rfl
  have eB : lawB.drop 5 = _ :: _ := rfl
  rw [eB]; clear eB
  -- place
  refine wpQS ?_
  intro Q₀ s₀
  refine wpAny_execs_cons (asgC (hb := hb) (outer := outer) rfl rfl (dcomp (n := 6) (cl := [("row", L + 3)]) (fs := L :: fr outer) (fun i => row.getD i 0) (placeG row) ro.inj ro.hg rfl (by decide) rfl (by decide) rfl hh (by decide) ?_) (hcb 8))
  refine Call_of rfl (gB (v := .type "range") H B.stays (by kernel_rfl) (by kernel_rfl) (sp1 (wpAny_Constant_int (sp0 ⟨keeps_type, range_1 fun r h₁ t₁ u1 u2 u3 k₁ hrn hr => ?_⟩))))
  have W₁ := W.stays k₁
  have B₁ := below_kept B k₁
  refine ⟨r, _, _, _, rfl, hr, fs_of B₁ rfl, ?_, ?_, ?_⟩
  · intro C i t₂ s₃ m₃ E' hi hnC hm r₃
    have W' := W₁.ret0 r₃
    obtain ⟨rv, rls, ria, rnf⟩ : IL (L :: fr outer) s₃.heap aR row := W'.fa (.il aR row) (by simp)
    have hcell : s₃.heap.IsCell (L + 3) (some (.ref aR)) := by have := (W'.cl "row" (L + 3) rfl).1; rwa [cr] at this
    obtain ⟨tv, hv⟩ := ints_get ria (j := i) (n := row.getD i 0) (by rw [List.getD_eq_getElem?_getD, List.getElem?_eq_getElem (by rw [ro.len]; exact hi)]; rfl)
    exact Sub_item (gC rfl hcell (gL hnC hm ⟨aR, rv, (i : Int), t₂, _, rfl, rfl, rls, by walk_at "o", by walk_at "o", by simpa using hv, ⟨tv, rfl⟩, s₃.heap, s₃.toks, rfl, fun b o e => e⟩))
  · intro C i t₂ s₃ m₃ E' hi hnC hm
    exact gL hnC hm ⟨⟨t₂, rfl⟩, s₃.heap, s₃.toks, rfl, fun b o e => e⟩
  intro aP h₂ t₂ hPn hP r₂
  show Ex5 fun h₁ t₁ m₁ cm₁ F₁ => _
  refine ⟨h₂, t₂, _, _, _, rfl, br_of B₁ rfl r₂, (W₁.ret0 r₂).add (f := .di aP _) hP, fun h₃ t₃ B₃ W₃ r₃ => ?_⟩
  have R₃ : Ret (XC L) (L :: fr outer) h h₃ := ((Ret.of_stays k₁).trans (r₂.wide (by simp))).trans (r₃.wide (by simp))
  clear r₂ r₃ W₁ W k₁ hP hPn B₁ B hr hrn
  -- order
  refine wpQS ?_
  intro Q₀ s₀
  refine wpAny_execs_cons (asgC (hb := hb) (outer := outer) rfl rfl ?_ (hcb 7))
  show wpAny _ _ (eval _ _ >>= fun f => callWith _ f [] _ _) _ _ _
  refine wpAny_bind (gB (v := .builtin "sorted") H B₃.stays (by kernel_rfl) (by kernel_rfl) (callWith_KWB rfl (sp1 (Call_of rfl (gB (v := .type "range") H B₃.stays (by kernel_rfl) (by kernel_rfl) (sp1 (wpAny_Constant_int (sp0 ⟨keeps_type, range_1 fun r h₄ t₄ u1 u2 u3 k₄ hrn hr => sp0 ?_⟩))))))))
  have W₄ := W₃.stays k₄
  have B₄ := below_kept B₃ k₄
  have n97 : 97 ∉ XC L := XC_not (Nat.lt_trans (by decide) hL)
  have n139 : 139 ∉ XC L := XC_not hL
  have T97₄ := k₄ _ _ (R₃.keep _ _ n97 f97 T97)
  have T139₄ := k₄ _ _ (R₃.keep _ _ n139 f139 T139)
  have f102 : (TopF w.params).lookup 102 = some ⟨_, _, .func (fnX _ _ _ _ _ _ _ _ _ _ _ _ _), _⟩ := rfl
  refine kwAll_cons (Call_of rfl (gG (v := .ref 102) H B₄.stays (by kernel_rfl) (sp1 (lam_mk (c := 141) (P := 139) H hbm B₄.stays (C139.keeps B₄.stays) T139₄ (by simp [TriplesOk]) (by simp [codeAmong]) rfl rfl rfl rfl fun lam c' ctv pm h₅ t₅ lamn cn hlam hc' T139₅ k₅ => sp0 ⟨keeps_func (k₅ _ _ (by decide) (B₄.stays _ _ (H.X _ _ f102))) rfl, ?_⟩))))
  have B₅ : Below A hb (lEnv L :: outer) h₅ := below_retX (X := [139]) B₄ (fun a ma => by rw [List.mem_singleton.mp ma]; exact ⟨n139', by rw [fr_cons rfl]; exact f139⟩) (.of_ext fun b o hb' e => k₅ b o (fun q => hb' (by simp [q])) e)
  have R₅ : Ret [139] (L :: fr outer) h₄ h₅ := .of_ext fun b o hb' e => k₅ b o (fun q => hb' (by simp [q])) e
  have W₅ := W₄.tab R₅ T139₄
  have T97₅ := k₅ _ _ (by decide) T97₄
  refine cmp_fn H B₅ (by walk_at "o") hh hbm (C97.keeps B₅.stays) T97₅ n97' fun p h₆ t₆ hp X₆ R₆ T97₆ => ?_
  have J₅ : LamJ prog w (placeG row) lam c' (L + 9) aP _ _ (lamPar cmpLam) (lamBody cmpLam) (lamSc cmpLam) [("place", L + 9)] pm ctv (L :: fr outer) h₅ :=
    ⟨hlam, fn_of B₄ rfl lamn, hc', fn_of B₄ rfl cn, (W₅.cl "place" (L + 9) rfl).1, (W₅.cl "place" (L + 9) rfl).2, W₅.fa (.di aP (placeG row)) (by simp)⟩
  rw [fr_cons rfl] at R₆
  have F5 : Free (L :: fr outer) h₅ [97] := fun b mb => by rw [List.mem_singleton.mp mb]; exact .inr (.inr (.inl ⟨_, T97₅⟩))
  have J₆ := J₅.ret R₆ F5 (fun q => by rw [List.mem_singleton.mp q, T97₄] at lamn; cases lamn) (fun q => by rw [List.mem_singleton.mp q, T97₄] at cn; cases cn) (fun q => by
    obtain ⟨o, e, dd⟩ := J₅.ce
    rw [List.mem_singleton.mp q, T97₅] at e; cases e; cases dd)
  have W₆ := W₅.tab R₆ T97₅
  have T139₆ := R₆.keep _ _ (by decide) f139 T139₅
  have B₆ : Below A hb (lEnv L :: outer) h₆ := below_retX (X := [97]) B₅ (fun a ma => by rw [List.mem_singleton.mp ma]; exact ⟨n97', by rw [fr_cons rfl]; exact f97⟩) (by rw [fr_cons rfl]; exact R₆)
  refine PyProof.Rows.evalAll_nil ?_
  have hr₆ : IsRange h₆ r 0 6 1 u1 u2 u3 := R₆.keep _ _ (fun q => by rw [List.mem_singleton.mp q, R₃.keep _ _ n97 f97 T97] at hrn; cases hrn) (fn_of B₃ rfl hrn) (k₅ _ _ (fun q => by rw [q, R₃.keep _ _ n139 f139 T139] at hrn; cases hrn) hr)
  refine sortK_fn (J := LamJ prog w (placeG row) lam c' (L + 9) aP _ _ (lamPar cmpLam) (lamBody cmpLam) (lamSc cmpLam) [("place", L + 9)] pm ctv) (c := fun a b => 3 * (gvR row a - gvR row b)) (dep := 1) (un := 0) (s := ⟨h₆, g, d, t₆, os⟩) H B₆ (by walk_at "o") hh (by walk_at "o") X₆
    (fun b mb => by rw [fr_cons rfl]; exact fn_of B₅ rfl (hp b mb)) ⟨_, _, J₆.ho, rfl⟩ (by rw [fr_cons rfl]; exact J₆.hof) (cmp_lam H fun k h0 h1 => ro.gv h0 h1) (by rw [fr_cons rfl]; exact J₆) (fun fs h h' x r => x.ret0 r) (fun fs h h' L x e k => x.under e k) hr₆ ro.ok (fun i hi => ?_) fun aOr h₇ t₇ hOn hO R₇ => ?_
  · have := ro.rg (i : Int) (by rw [← ro.ev]; exact List.mem_map_of_mem hi)
    omega
  rw [ro.ev] at hO
  rw [fr_cons rfl] at R₇ hO
  refine ⟨h₇, t₇, _, _, _, rfl, br_of B₆ rfl R₇, (W₆.ret0 R₇).add (f := .il aOr _) hO, fun h₈ t₈ B₈ W₈ R₈ => ?_⟩
  have T139₈ := R₈.keep _ _ (XC_sub n139 (by simp)) f139 (R₇.keep _ _ (by simp) f139 T139₆)
  have T97₈ : ∃ ps, h₈.get? 97 = some (tabObj ps) := by
    obtain ⟨ps, e⟩ := T97₆
    exact ⟨ps, R₈.keep _ _ (XC_sub n97 (by simp)) f97 (R₇.keep _ _ (by simp) f97 e)⟩
  have R8 : Ret (XL L) (L :: fr outer) h h₈ := ((((R₃.wide (Y := XL L) (by simp)).trans (.of_stays k₄)).trans (R₅.wide (by simp))).trans (R₆.wide (by simp))).trans ((R₇.wide (by simp)).trans (R₈.wide (by simp)))
  refine wpQS ?_
  intro Q₀ s₀
  refine wpAny_execs_cons (asgC (hb := hb) (outer := outer) rfl rfl (Constant_bytes ?_) (hcb 3))
  refine ⟨h₈, _, _, _, _, rfl, B₈, W₈, fun h₉ t₉ B₉ W₉ R₉ => ?_⟩
  have T139₉ := R₉.keep _ _ (XC_sub n139 (by simp)) f139 T139₈
  have T97₉ : ∃ ps, h₉.get? 97 = some (tabObj ps) := by
    obtain ⟨ps, e⟩ := T97₈
    exact ⟨ps, R₉.keep _ _ (XC_sub n97 (by simp)) f97 e⟩
  refine k h₉ t₉ _ aP aOr c' t₈ B₉ (W₉.only ?_) ?_ ?_ ?_ ?_ ?_ T97₉ T139₉ (R8.trans (R₉.wide (by simp)))
  · intro f mf
    simp only [List.mem_cons, List.not_mem_nil, or_false] at mf ⊢
    rcases mf with rfl | rfl | rfl | rfl
    · exact .inr (.inr (.inl rfl))
    · exact .inr (.inr (.inr rfl))
    · exact .inr (.inl rfl)
    · exact .inl rfl
  · walk_at "m"
  · walk_at "m"
  · walk_at "m"
  · walk_at "m"
  · walk_at "m"
end
end Mine
end

section
open PySem PySem.W PyProof.Rows
set_option maxRecDepth 100000
set_option maxHeartbeats 4000000
namespace Mine
open PySem PySem.Spec PySem.Calls PyProof.Rows PySem.W

noncomputable def bitsV (ol : List Int) : Int := ((rangeL ol.length).map fun k => ol.getD k.toNat 0 * 256 ^ (2 - k).toNat).sum
noncomputable def valuesV (ol : List Int) : List Int := if ol = [] then [] else (rangeL (ol.length + 1)).map fun k => ((bitsV ol).fdiv (64 ^ (3 - k).toNat)).fmod 64
structure CodeOk (ol : List Int) : Prop where
  rg : ∀ x ∈ ol, 0 ≤ x ∧ x < 256
  len : ol.length ≤ 3
  vrg : ∀ v ∈ valuesV ol, 0 ≤ v ∧ v < 64
  vlen : (valuesV ol).length ≤ 4
  elen : (enc ol).length ≤ 8
  p1 : filt (enc ol) [61] = (valuesV ol).map b64at
  p2 : enc ol = filt (enc ol) [61] ++ List.replicate ((-(ol.length : Int)).fmod 3).toNat 61
theorem filt_t {ns : List Int} : List.filter (fun _ : Int => true) ns = ns := List.filter_eq_self.mpr fun _ _ => rfl
theorem alphaB_ints : KBw.bInts alphaB = b64L := by decide +kernel

section
variable {w : World} {mg mb : Str → Option Value} {hb : Heap} {prog : Program} {A : Around} {outer : List Env} {E : Value → Shared → Prop} {h : Heap} {g : Array GenState} {d : Drawn} {t : Nat} {os : OsState} {L : Addr} {m cm : Str → Option Value} {F : List Fact}

/-- statements 8 and 9 -/
theorem seg_C1 {aO : Addr} {ol : List Int} {Q : Flow → Shared → Prop} (H : Bs w mg mb hb) (B : Below A hb (lEnv L :: outer) h) (hh : A.handled = none) (hd : A.depth + 40 < recursionLimit) (hu : A.units + 100 < cLine)
    (W : Law prog w (L :: fr outer) L (lawCells L) m cm F h) (hO : .il aO ol ∈ F) (co : cm "octets" = some (.ref aO)) (ok : CodeOk ol) (hcb : ∀ i : Nat, hb.get? (L + (i + 1) : Nat) = none)
    (k : ∀ h' t' aV tb, Below A hb (lEnv L :: outer) h' →
      Law prog w (L :: fr outer) L (lawCells L) (fun z => if z = "values" then some (.ref aV) else m z) (fun z => if z = "bits" then some (.int (bitsV ol) tb) else cm z) (.il aV (valuesV ol) :: F) h' →
      Ret (XC L) (L :: fr outer) h h' → wpAny (model prog w) A (execs (lawB.drop 10) (lEnv L)) Q E ⟨h', g, d, t', os⟩) :
    wpAny (model prog w) A (execs (lawB.drop 8) (lEnv L)) Q E ⟨h, g, d, t, os⟩ := by
  have eB : lawB.drop 8 = _ :: _ := rfl
  rw [eB]; clear eB
  have cell : ∀ {h₁ : Heap} {m₁ cm₁ F₁}, Law prog w (L :: fr outer) L (lawCells L) m₁ cm₁ F₁ h₁ → cm₁ "octets" = some (.ref aO) → h₁.IsCell (L + 2) (some (.ref aO)) := fun W' e => by have := (W'.cl "octets" (L + 2) rfl).1; rwa [e] at this
  have hlen := ok.len
  have elt : ∀ {C : Addr} {k : Int} {t : Tok}, True := trivial
  -- bits
  have hC0 := cell W co
  obtain ⟨ov, ols, oia, onf⟩ : IL (L :: fr outer) h aO ol := W.fa _ hO
  refine wpQS ?_
  intro Q₀ s₀
  refine wpAny_execs_cons (asgC (hb := hb) (outer := outer) rfl rfl (Call_of rfl (gB (v := .builtin "sum") H B.stays (by kernel_rfl) (by kernel_rfl) (sp1 (icompR (cl := [("octets", L + 2)]) (fs := L :: fr outer) (fun _ => true) (fun k => ol.getD k.toNat 0 * 256 ^ (2 - k).toNat) rfl (by decide) rfl (by decide) rfl hh ?_)))) (hcb 4))
  refine Call_of rfl (gB (v := .type "range") H B.stays (by kernel_rfl) (by kernel_rfl) (sp1 (Call_of rfl (gB (v := .builtin "len") H B.stays (by kernel_rfl) (by kernel_rfl) (sp1 (gC rfl hC0 (sp0 ⟨keeps_builtin, call_len_list ols.il (by rw [List.size_toArray, oia.length]; walk_at "o") (sp0 ⟨keeps_type, range_1 fun r h₁ t₁ u1 u2 u3 k₁ hrn hr => ?_⟩)⟩)))))))
  rw [List.size_toArray, oia.length] at hr
  have W₁ := W.stays k₁
  have B₁ := below_kept B k₁
  refine ⟨r, _, _, _, _, rfl, hr, by walk_at "o", fs_of B₁ rfl, fun C k t s₃ m₃ E' _ _ _ _ _ => tests0 ⟨rfl, s₃.heap, s₃.toks, rfl, .refl⟩, fun C k t s₃ m₃ E' k0 k1 _ hnC hm r₃ => ?_, fun D h₂ t₂ hDn hD r₂ => ?_⟩
  · have W' := W₁.ret0 r₃
    obtain ⟨rv, rls, ria, rnf⟩ : IL (L :: fr outer) s₃.heap aO ol := W'.fa _ hO
    have hin : k.toNat < ol.length := by walk_at "o"
    obtain ⟨tv, hv⟩ := ints_get ria (j := k.toNat) (n := ol.getD k.toNat 0) (by rw [List.getD_eq_getElem?_getD, List.getElem?_eq_getElem hin]; rfl)
    have hrg := ok.rg (ol.getD k.toNat 0) (by rw [List.getD_eq_getElem?_getD, List.getElem?_eq_getElem hin]; exact List.getElem_mem hin)
    refine wpAny_BinOp (Sub_item (gC rfl (cell W' co) (gL hnC hm ⟨aO, rv, k, t, _, rfl, rfl, rls, by walk_at "o", by walk_at "o", hv, ?_⟩)))
    refine wpAny_BinOp (wpAny_Constant_int (wpAny_BinOp (wpAny_Constant_int (gL hnC hm (sub_int (pow_int_small (by walk_at "o") (by walk_at "o") (by decide) (mul_int ⟨s₃.heap, _, _, rfl, .refl, rfl⟩ (PySem.IntMulOk.of_left (PySem.intBits_le_64 (by walk_at "o") (by walk_at "o"))))))))))
  refine sp0 ⟨keeps_builtin, ?_⟩
  rw [filt_t] at hD
  obtain ⟨dv, dls, dia, dnf⟩ := hD
  refine sum_ll (s := ⟨h₂, g, d, t₂, os⟩) hh dls dia fun h₃ t₃ u₃ k₃ => ?_
  have W₃ := (W₁.ret0 r₂).stays k₃
  have B₃ := below_kept (br_of B₁ rfl r₂) k₃
  refine ⟨h₃, t₃, _, _, _, rfl, B₃, W₃, fun h₄ t₄ B₄ W₄ r₄ => ?_⟩
  have R₄ : Ret (XC L) (L :: fr outer) h h₄ := (((Ret.of_stays k₁).trans (r₂.wide (by simp))).trans (.of_stays k₃)).trans (r₄.wide (by simp))
  clear r₂ r₄ W₁ W k₁ B₁ B₃ W₃ dls dia dnf hDn ols oia onf hrn hr B
  -- values
  have c₄ := cell W₄ (by walk_at "m")
  obtain ⟨ov, ols, oia, onf⟩ : IL (L :: fr outer) h₄ aO ol := W₄.fa _ hO
  refine wpQS ?_
  intro Q₀ s₀
  refine wpAny_execs_cons (asgL (hb := hb) (outer := outer) rfl (IfExp_ (wpAny_isTrue_Compare1 (gC rfl c₄ (Disp (sp0 ⟨by simp, fun N h₅ k₅ hNn hN => ke_ne_ints (ols.at (k₅ _)).il hN.il oia .nil (by show A.units + 64 < _; walk_at "o") (wpAny_truthy_bool ?_)⟩))))))
  have W₅ := W₄.stays k₅
  have B₅ := below_kept B₄ k₅
  have c₅ := cell W₅ (by walk_at "m")
  have cb₅ : h₅.IsCell (L + 5) (some (.int (bitsV ol) u₃)) := by have := (W₅.cl "bits" (L + 5) rfl).1; rwa [if_pos rfl] at this
  have o₅ : IL (L :: fr outer) h₅ aO ol := W₅.fa _ hO
  have fin : ∀ D h₆ t₆, IL (L :: fr outer) h₆ D (valuesV ol) → Ret [] (L :: fr outer) h₅ h₆ → Ex5 fun h₁ t₁ m₁ cm₁ F₁ => (⟨h₆, g, d, t₆, os⟩ : Shared) = ⟨h₁, g, d, t₁, os⟩ ∧ Below A hb (lEnv L :: outer) h₁ ∧ Law prog w (L :: fr outer) L (lawCells L) m₁ cm₁ F₁ h₁ ∧
      (∀ h₂ t₂, Below A hb (lEnv L :: outer) h₂ → Law prog w (L :: fr outer) L (lawCells L) (fun z => if z = "values" then some (.ref D) else m₁ z) cm₁ F₁ h₂ → Ret [L] (L :: fr outer) h₁ h₂ → wpAny (model prog w) A (execs (lawB.drop 10) (lEnv L)) Q E ⟨h₂, g, d, t₂, os⟩) := by
    intro D h₆ t₆ hD r₆
    refine ⟨h₆, t₆, _, _, _, rfl, br_of B₅ rfl r₆, (W₅.ret0 r₆).add (f := .il D _) hD, fun h₇ t₇ B₇ W₇ r₇ => ?_⟩
    exact k h₇ t₇ D u₃ B₇ W₇ ((R₄.trans (.of_stays k₅)).trans ((r₆.wide (by simp)).trans (r₇.wide (by simp))))
  by_cases q : ol = []
  · rw [if_neg (by simp [q])]
    refine Disp (sp0 ⟨by simp, fun D h₆ k₆ hDn hD => fin D h₆ _ ⟨_, hD, by rw [valuesV, if_pos q]; exact .nil, fn_of B₅ rfl hDn⟩ (.of_stays k₆)⟩)
  rw [if_pos (by simp [q])]
  refine icompR (cl := [("bits", L + 5)]) (fs := L :: fr outer) (fun _ => true) (fun k => ((bitsV ol).fdiv (64 ^ (3 - k).toNat)).fmod 64) rfl (by decide) rfl (by decide) rfl hh ?_
  obtain ⟨ov, ols, oia, onf⟩ := o₅
  refine Call_of rfl (gB (v := .type "range") H B₅.stays (by kernel_rfl) (by kernel_rfl) (sp1 (wpAny_BinOp (Call_of rfl (gB (v := .builtin "len") H B₅.stays (by kernel_rfl) (by kernel_rfl) (sp1 (gC rfl c₅ (sp0 ⟨keeps_builtin, call_len_list ols.il (by rw [List.size_toArray, oia.length]; walk_at "o") (wpAny_Constant_int (add_int (sp0 ⟨keeps_type, range_1 fun r h₆ t₆ u1 u2 u3 k₆ hrn hr => ?_⟩)))⟩))))))))
  rw [List.size_toArray, oia.length] at hr
  have W₆ := W₅.stays k₆
  have B₆ := below_kept B₅ k₆
  refine ⟨r, _, _, _, ol.length + 1, rfl, hr, by walk_at "o", fs_of B₆ rfl, fun C k t s₃ m₃ E' _ _ _ _ _ => tests0 ⟨rfl, s₃.heap, s₃.toks, rfl, .refl⟩, fun C k t s₃ m₃ E' k0 k1 _ hnC hm r₃ => ?_, fun D h₇ t₇ hDn hD r₇ => ?_⟩
  · have W' := W₆.ret0 r₃
    have cb' : s₃.heap.IsCell (L + 5) (some (.int (bitsV ol) u₃)) := by have := (W'.cl "bits" (L + 5) rfl).1; rwa [if_pos rfl] at this
    have hk3 : (3 - k).toNat ≤ 3 := by walk_at "o"
    have hp : (64 : Int) ^ (3 - k).toNat ≠ 0 ∧ ((64 : Int) ^ (3 - k).toNat).natAbs < 1073741824 := by
      revert hk3; generalize (3 - k).toNat = j; intro hj
      rcases j with _ | _ | _ | _ | j
      · decide
      · decide
      · decide
      · decide
      · omega
    refine wpAny_BinOp (wpAny_BinOp (gC rfl cb' (wpAny_BinOp (wpAny_Constant_int (wpAny_BinOp (wpAny_Constant_int (gL hnC hm (sub_int (pow_int_small (by walk_at "o") (by walk_at "o") (by decide) (floordiv_int hp.1 (wpAny_Constant_int (mod_int (by decide) ⟨s₃.heap, _, _, rfl, .refl, rfl⟩)) (.inl (PyProof.noPylong_small hp.2))))))))))))
  · rw [filt_t] at hD
    exact fin D h₇ t₇ (by rw [valuesV, if_neg q]; exact hD) (((Ret.of_stays k₆)).trans r₇)
end
end Mine
end

section
open PySem PySem.W PyProof.Rows
set_option maxRecDepth 100000
set_option maxHeartbeats 4000000
namespace Mine
open PySem PySem.Spec PySem.Calls PyProof.Rows PySem.W

theorem byteArr_app (a b : List Int) : (byteArr (a ++ b)).toList = (byteArr a).toList ++ (byteArr b).toList := by simp [byteArr]
theorem flat_rep (n : Nat) : (List.replicate n [(61 : UInt8)]).flatten = (List.replicate n (61 : Int)).map fun n => n.toNat.toUInt8 := by
  induction n with
  | zero => rfl
  | succ n ih => rw [List.replicate_succ, List.flatten_cons, ih, List.replicate_succ, List.map_cons]; rfl

section
variable {w : World} {mg mb : Str → Option Value} {hb : Heap} {prog : Program} {A : Around} {outer : List Env} {E : Value → Shared → Prop} {h : Heap} {g : Array GenState} {d : Drawn} {t : Nat} {os : OsState} {L : Addr} {m cm : Str → Option Value} {F : List Fact}

theorem filter_il {s : Shared} {A : Around} {outer : List Env} {l sk : Addr} {ns ks : List Int} {Q : Value → Shared → Prop}
    (H : Bs w mg mb hb) (B : Below A hb outer s.heap) (hd : A.depth + 2 < recursionLimit) (hh : A.handled = none)
    (hl : IL (fr outer) s.heap l ns) (hk : IL (fr outer) s.heap sk ks) (hz : ns.length ≤ 1000)
    (k : ∀ r h' tk, s.heap.get? r = none → IL (fr outer) h' r (filt ns ks) → Ret [] (fr outer) s.heap h' → Q (.ref r) { s with heap := h', toks := tk }) :
    wpAny (model prog w) A (call (.ref 65) [.ref l, .ref sk]) Q E s := by
  obtain ⟨vs, ls, ia, nf⟩ := hl
  obtain ⟨vk, lk, ik, nk⟩ := hk
  exact filter_fn H B hd hh ls lk ia ik (by intro a ma; simp at ma; rcases ma with rfl | rfl; exact nf; exact nk) hz fun r vr h' tk rn hr ir rr => k r h' tk rn ⟨vr, hr, ir, fresh_notin B.frames rn⟩ rr

/-- statements 10 to 12 -/
theorem seg_C2 {aO aV : Addr} {ol : List Int} {ta : Tok} {Q : Flow → Shared → Prop} (H : Bs w mg mb hb) (B : Below A hb (lEnv L :: outer) h) (hh : A.handled = none) (hd : A.depth + 40 < recursionLimit) (hu : A.units + 100 < cLine)
    (W : Law prog w (L :: fr outer) L (lawCells L) m cm F h) (hO : .il aO ol ∈ F) (hV : .il aV (valuesV ol) ∈ F) (co : cm "octets" = some (.ref aO)) (ca : cm "alphabet" = some (.bytes alphaB ta)) (mv : m "values" = some (.ref aV)) (ok : CodeOk ol)
    (k : ∀ h' t' aS tb, Below A hb (lEnv L :: outer) h' →
      Law prog w (L :: fr outer) L (lawCells L) (fun z => if z = "signs" then some (.ref aS) else if z = "written" then some tb else m z) cm (.il aS ((valuesV ol).map b64at) :: F) h' →
      Ret (XC L) (L :: fr outer) h h' → wpAny (model prog w) A (execs (lawB.drop 13) (lEnv L)) Q E ⟨h', g, d, t', os⟩) :
    wpAny (model prog w) A (execs (lawB.drop 10) (lEnv L)) Q E ⟨h, g, d, t, os⟩ := by
  have eB : lawB.drop 10 = _ :: _ := rfl
  rw [eB]; clear eB
  have cell : ∀ {h₁ : Heap} {m₁ F₁}, Law prog w (L :: fr outer) L (lawCells L) m₁ cm F₁ h₁ → h₁.IsCell (L + 2) (some (.ref aO)) := fun W' => by have := (W'.cl "octets" (L + 2) rfl).1; rwa [co] at this
  have cella : ∀ {h₁ : Heap} {m₁ F₁}, Law prog w (L :: fr outer) L (lawCells L) m₁ cm F₁ h₁ → h₁.IsCell (L + 4) (some (.bytes alphaB ta)) := fun W' => by have := (W'.cl "alphabet" (L + 4) rfl).1; rwa [ca] at this
  have hlen := ok.len
  have helen := ok.elen
  obtain ⟨ov, ols, oia, onf⟩ : IL (L :: fr outer) h aO ol := W.fa _ hO
  -- written
  have f95 : (TopF w.params).lookup 95 = some ⟨_, _, .func (fnX _ _ _ _ _ _ _ _ _ _ _ _ _), _⟩ := rfl
  have f65 : (TopF w.params).lookup 65 = some ⟨_, _, .func (fnX _ _ _ _ _ _ _ _ _ _ _ _ _), _⟩ := rfl
  refine wpQS ?_
  intro Q₀ s₀
  refine wpAny_execs_cons (asgL (hb := hb) (outer := outer) rfl (Call_of rfl (gG (v := .ref 95) H B.stays (by kernel_rfl) (sp1 (Call_of rfl (gB (v := .type "bytes") H B.stays (by kernel_rfl) (by kernel_rfl) (sp1 (gC rfl (cell W) (sp0 ⟨keeps_type, call_bytes_ints ols.il oia ok.rg (by rw [oia.length, sizeLine_eq]; walk_at "o") hh fun h₁ u₁ t₁ k₁ => sp0 ?_⟩)))))))))
  have W₁ := W.stays k₁
  have B₁ := below_kept B k₁
  refine ⟨keeps_func (B₁.stays _ _ (H.X _ _ f95)) rfl, b64_fn (outer := lEnv L :: outer) H B₁ (by walk_at "o") hh (by rw [byteArr_size]; walk_at "o") fun h₂ t₂ u₂ r₂ rng => ?_⟩
  rw [KBa.ints_make ok.rg] at rng ⊢
  rw [fr_cons rfl] at r₂
  have W₂ := W₁.ret0 r₂
  have B₂ := br_of B₁ rfl r₂
  refine ⟨h₂, t₂, _, _, _, rfl, B₂, W₂, fun h₃ t₃ B₃ W₃ r₃ => ?_⟩
  have R₃ : Ret (XC L) (L :: fr outer) h h₃ := ((Ret.of_stays k₁).trans (r₂.wide (by simp))).trans (r₃.wide (by simp))
  clear r₂ r₃ W₁ W k₁ B₁ B₂ W₂ B ols oia onf
  -- signs
  refine wpQS ?_
  intro Q₀ s₀
  refine wpAny_execs_cons (asgL (hb := hb) (outer := outer) rfl (Call_of rfl (gG (v := .ref 65) H B₃.stays (by kernel_rfl) (sp1 (Call_of rfl (gB (v := .type "list") H B₃.stays (by kernel_rfl) (by kernel_rfl) (sp1 (gL W₃.ns (by walk_at "m") (sp0 ⟨keeps_type, list_bytes hh (by rw [byteArr_size]; walk_at "o") fun D₄ vs₄ h₄ t₄ k₄ hD₄n hD₄ hi₄ => sp1 (Disp (sp1 (wpAny_Constant_int (sp0 ⟨by simp [sizeLine_eq], fun D₅ h₅ k₅ hD₅n hD₅ => sp0 ?_⟩))))⟩)))))))))
  rw [KBa.ints_make rng] at hi₄
  have W₄ := W₃.stays k₄
  have B₄ := below_kept B₃ k₄
  have W₅ := W₄.stays k₅
  have B₅ := below_kept B₄ k₅
  refine ⟨keeps_func (B₅.stays _ _ (H.X _ _ f65)) rfl, filter_il (outer := lEnv L :: outer) H B₅ (by walk_at "o") hh (ns := enc ol) (ks := [61]) ⟨vs₄, hD₄.at (k₅ _), hi₄, fresh_notin B₃.frames hD₄n⟩ ⟨_, hD₅, .cons 61 _ .nil, fresh_notin B₄.frames hD₅n⟩ (by walk_at "o") fun aS h₆ t₆ hSn hS r₆ => ?_⟩
  rw [fr_cons rfl] at r₆ hS
  rw [ok.p1] at hS
  have W₆ := W₅.ret0 r₆
  have B₆ := br_of B₅ rfl r₆
  refine ⟨h₆, t₆, _, _, _, rfl, B₆, W₆.add (f := .il aS _) hS, fun h₇ t₇ B₇ W₇ r₇ => ?_⟩
  have R₇ : Ret (XC L) (L :: fr outer) h h₇ := (((R₃.trans (.of_stays k₄)).trans (.of_stays k₅)).trans (r₆.wide (by simp))).trans (r₇.wide (by simp))
  clear r₆ r₇ W₆ B₆ W₅ B₅ W₄ B₄ W₃ B₃ R₃ hS hSn hD₄ hD₅ hD₄n hD₅n hi₄ k₄ k₅
  -- the test
  have vS : IL (L :: fr outer) h₇ aS ((valuesV ol).map b64at) := W₇.fa (.il aS ((valuesV ol).map b64at)) (by simp)
  have vV : IL (L :: fr outer) h₇ aV (valuesV ol) := W₇.fa (.il aV (valuesV ol)) (by simp [hV])
  have hvl := ok.vlen
  refine wpQS ?_
  intro Q₀ s₀
  refine wpAny_execs_cons (wpAny_If (isTrue_or (wpAny_isTrue_Compare1 (gL W₇.ns (by walk_at "m") (icompL (cl := [("alphabet", L + 4)]) (fs := L :: fr outer) (fun _ => true) b64at rfl (by decide) rfl (by decide) rfl hh (gL W₇.ns (by walk_at "m") ?_))))))
  refine ⟨aV, valuesV ol, rfl, vV, by walk_at "o", fs_of B₇ rfl, fun C kk tt s₃ m₃ E' _ _ _ _ => tests0 ⟨rfl, s₃.heap, s₃.toks, rfl, .refl⟩, fun C kk tt s₃ m₃ E' hkm _ hnC hm r₃ => ?_, fun D₈ h₈ t₈ hD₈n hD₈ r₈ => ?_⟩
  · have W' := W₇.ret0 r₃
    obtain ⟨v0, v1⟩ := ok.vrg kk hkm
    exact Subscript_ (gC rfl (cella W') (gL hnC hm (KBw.item_K alphaB_ints (by decide) v0 v1 fun t' k' _ _ => ⟨s₃.heap, k', t', rfl, .refl, rfl⟩)))
  rw [filt_t] at hD₈
  have W₈ := W₇.ret0 r₈
  have B₈ := br_of B₇ rfl r₈
  obtain ⟨sv, sls, sia, snf⟩ := vS.ret r₈ (by simp)
  obtain ⟨dv, dls, dia, dnf⟩ := hD₈
  refine ke_ne_ints sls.il dls.il sia dia (by show A.units + 64 < _; walk_at "o") (wpAny_truthy_bool ?_)
  rw [if_neg (by simp)]
  obtain ⟨ov, ols, oia, onf⟩ : IL (L :: fr outer) h₈ aO ol := W₈.fa (.il aO ol) (by simp [hO])
  refine isTrue_or (wpAny_isTrue_Compare1 (gL W₈.ns (by walk_at "m") (wpAny_BinOp (Call_of rfl (gB (v := .type "bytes") H B₈.stays (by kernel_rfl) (by kernel_rfl) (sp1 (gL W₈.ns (by walk_at "m") (sp0 ⟨keeps_type, call_bytes_ints sls.il sia (fun n hn => ?_) (by rw [sia.length, sizeLine_eq, List.length_map]; walk_at "o") hh fun h₉ u₉ t₉ k₉ => ?_⟩))))))))
  · obtain ⟨v, _, rfl⟩ := List.mem_map.mp hn
    exact b64at_in
  have W₉ := W₈.stays k₉
  have B₉ := below_kept B₈ k₉
  refine wpAny_BinOp (Constant_bytes (wpAny_BinOp (wpAny_UnaryOp (Call_of rfl (gB (v := .builtin "len") H B₉.stays (by kernel_rfl) (by kernel_rfl) (sp1 (gC rfl (cell W₉) (sp0 ⟨keeps_builtin, call_len_list (ols.at (k₉ _)).il (by rw [List.size_toArray, oia.length]; walk_at "o") (neg_int (wpAny_Constant_int (mod_int (by decide) ?_)))⟩))))))))
  rw [List.size_toArray, oia.length]
  have f0 : 0 ≤ (-(ol.length : Int)).fmod 3 := Int.fmod_nonneg_of_pos _ (by decide)
  have f1 : (-(ol.length : Int)).fmod 3 < 3 := Int.fmod_lt_of_pos _ (by decide)
  refine bytes_mul_any (by decide) (by walk_at "o") (by walk_at "o") (by decide) fun u₁₀ t₁₀ => ?_
  refine KBy.add_bytes ?_ fun u₁₁ t₁₁ => ?_
  · rw [byteArr_size, List.size_toArray, flat_rep, List.length_map, List.length_map, List.length_replicate]; omega
  have heq : (byteArr (enc ol)).toList = (byteArr ((valuesV ol).map b64at) ++ (List.replicate ((-(ol.length : Int)).fmod 3).toNat [(61 : UInt8)]).flatten.toArray).toList := by
    rw [ok.p2, ok.p1, byteArr_app, Array.toList_append, flat_rep]; rfl
  refine ne_bytes (wpAny_truthy_bool ?_)
  rw [if_neg (by rw [heq]; simp)]
  refine isTrue_or_nil ?_
  rw [if_neg (by decide)]
  refine wpAny_execs_nil ?_
  exact k h₉ _ aS _ B₉ W₉ ((R₇.trans (r₈.wide (by simp))).trans (.of_stays k₉))
end
end Mine
end

section
open PySem PySem.W PyProof.Rows
set_option maxRecDepth 100000
set_option maxHeartbeats 4000000
namespace Mine
open PySem PySem.Spec PySem.Calls PyProof.Rows PySem.W

section
variable {w : World} {prog : Program} {A : Around} {s : Shared} {E : Value → Shared → Prop} {env : Env}

/-- a comprehension over ints that makes a list of lists of ints, its variable a cell -/
theorem lcompC {elt iter : Expr} {x : Str} {px : Pos} {scope : Scope} {cl : List (Str × Addr)} {pos : Pos} {fs : List Addr} {Q : Value → Shared → Prop} (f : Int → List Int)
    (hclos : closureFor scope env = pure cl) (hkind : scope.kind = .function) (hnames : ∀ y ∈ scope.names, y.2 = .local → scope.names.lookup y.1 = some .local)
    (hcf : ∀ n, cellsFrom n scope.names cl = (x, n) :: cl) (hpc : ∀ h, pushCells h scope.names = h.push { cls := .type "cell", data := .cell none }) (hx : ∀ K C, (compEnvC scope ((x, K) :: cl) C env).kindOf x = some .cell) (hh : A.handled = none)
    (h : wpAny (model prog w) A (eval iter env) (fun xv s₁ => Ex2 fun a (ns : List Int) => xv = .ref a ∧ IL fs s₁.heap a ns ∧ ns.length ≤ 1000 ∧ (∀ b ∈ fs, ∃ o, s₁.heap.get? b = some o) ∧
      (∀ C K k t s₃ m₃ E', k ∈ ns → s₃.heap.Ns C m₃ → s₃.heap.IsCell K (some (.int k t)) → K ∉ fs → Ret [] fs s₁.heap s₃.heap →
        wpAny (model prog w) A (eval elt (compEnvC scope ((x, K) :: cl) C env)) (fun y s₄ => Ex3 fun h₄ tk₄ b => s₄ = { s₃ with heap := h₄, toks := tk₄ } ∧ Ret [] fs s₃.heap h₄ ∧ y = .ref b ∧ s₃.heap.get? b = none ∧ IL fs h₄ b (f k)) E' s₃) ∧
      (∀ D h' tk, s₁.heap.get? D = none → LL fs h' D (ns.map f) → Ret [] fs s₁.heap h' → Q (.ref D) { s₁ with heap := h', toks := tk })) E s)
    (hs : ∀ x, foldedSetIterable iter env x = pure x := by intro _; rfl) :
    wpAny (model prog w) A (eval (.ListComp elt [⟨.Name x px, iter, [], 0⟩] scope pos) env) Q E s := by
  rw [eval_ListComp]
  refine wpAny_comprehension_free (use := none) rfl hs hclos hkind hnames (wpAny_mono h (fun xv s₁ h₁ => ?_) fun _ _ e => e)
  obtain ⟨a, ns, rfl, ⟨vs, ls, ia, nf⟩, hz, hfs, turn, fin⟩ := h₁
  refine (Src.list hh ls nf hfs).opens s₁ _ _ rfl fun I fp wr P St h₂ W hP hst hfp hfF hf0 hwr hex k => ?_
  refine wpAny_newObj_type ?_
  simp only [newFunctionEnv]
  refine wpAny_bind (wpAny_alloc ?_)
  refine wpAny_bind (wpAny_layCells _ (fun name kind cells => by cases hkc : kind == NameKind.cell <;> simp) _ _ _ _ ?_)
  rw [hcf, hpc]
  rw [List.forIn_nil]
  refine wpAny_bind (wpAny_pure (wpAny_pure ?_))
  obtain ⟨H₀, g, d, t, os⟩ := s₁
  dsimp only at *
  have hC : (h₂.push { cls := .type "list", dict := none, data := .seq ([] : List Value).toArray }).objs.size = h₂.objs.size + 1 := by rw [Heap.size_push]
  have hK : ((h₂.push { cls := .type "list", dict := none, data := .seq ([] : List Value).toArray }).push { cls := .type "dict", data := .dict #[] }).objs.size = h₂.objs.size + 2 := by rw [Heap.size_push, Heap.size_push]
  simp only [Option.isSome_some, if_true]
  rw [hK]
  rw [hC]
  have hD₄ : (((h₂.push { cls := .type "list", dict := none, data := .seq ([] : List Value).toArray }).push { cls := .type "dict", data := .dict #[] }).push { cls := .type "cell", data := .cell none }).PlainList h₂.objs.size #[] := ⟨_, Heap.get?_push_of_some _ (Heap.get?_push_of_some _ (Heap.get?_push_size _ rfl))⟩
  have hC₄ : (((h₂.push { cls := .type "list", dict := none, data := .seq ([] : List Value).toArray }).push { cls := .type "dict", data := .dict #[] }).push { cls := .type "cell", data := .cell none }).Ns (h₂.objs.size + 1) (fun _ => none) := by
    have := (Heap.Ns.new (h₂.push { cls := .type "list", dict := none, data := .seq ([] : List Value).toArray }) (.type "dict")).keeps (h' := (((h₂.push { cls := .type "list", dict := none, data := .seq ([] : List Value).toArray }).push { cls := .type "dict", data := .dict #[] }).push { cls := .type "cell", data := .cell none })) (fun b o e => Heap.get?_push_of_some _ e)
    rwa [hC] at this
  have hK₄ : (((h₂.push { cls := .type "list", dict := none, data := .seq ([] : List Value).toArray }).push { cls := .type "dict", data := .dict #[] }).push { cls := .type "cell", data := .cell none }).IsCell (h₂.objs.size + 2) none := ⟨_, by rw [← hK]; exact Heap.get?_push_size _ rfl, rfl⟩
  have k₄ : h₂.StaysIn (((h₂.push { cls := .type "list", dict := none, data := .seq ([] : List Value).toArray }).push { cls := .type "dict", data := .dict #[] }).push { cls := .type "cell", data := .cell none }) := fun b o e => Heap.get?_push_of_some _ (Heap.get?_push_of_some _ (Heap.get?_push_of_some _ e))
  generalize (((h₂.push { cls := .type "list", dict := none, data := .seq ([] : List Value).toArray }).push { cls := .type "dict", data := .dict #[] }).push { cls := .type "cell", data := .cell none }) = h₄ at *
  clear hC hK
  have fD : h₂.get? h₂.objs.size = none := Heap.get?_none_of_le (Nat.le_refl _)
  have fC : h₂.get? (h₂.objs.size + 1) = none := Heap.get?_none_of_le (Nat.le_succ _)
  have fK : h₂.get? (h₂.objs.size + 2) = none := Heap.get?_none_of_le (Nat.le_trans (Nat.le_succ _) (Nat.le_succ _))
  have nDC : h₂.objs.size ≠ h₂.objs.size + 1 := by walk_at "o"
  have nDK : h₂.objs.size ≠ h₂.objs.size + 2 := by walk_at "o"
  have nCK : h₂.objs.size + 1 ≠ h₂.objs.size + 2 := by walk_at "o"
  have pD : h₂.objs.size ∉ fp := fun m => absurd (hfp _ m) (Nat.lt_irrefl _)
  have pC : h₂.objs.size + 1 ∉ fp := fun m => absurd (hfp _ m) (Nat.not_lt.mpr (Nat.le_add_right _ _))
  have pK : h₂.objs.size + 2 ∉ fp := fun m => absurd (hfp _ m) (Nat.not_lt.mpr (Nat.le_add_right _ _))
  generalize h₂.objs.size + 2 = K at *
  generalize h₂.objs.size + 1 = C at *
  generalize h₂.objs.size = D at *
  have hst₄ : St 0 h₄ := W.frame _ _ _ hst fun b _ o e => k₄ b o e
  have kD : H₀.get? D = none := stays_none k fD
  have kC : H₀.get? C = none := stays_none k fC
  have kK : H₀.get? K = none := stays_none k fK
  have nfs : ∀ {b : Addr}, H₀.get? b = none → b ∉ fs := fun e m => by obtain ⟨o, e'⟩ := hfs _ m; rw [e] at e'; cases e'
  have wsub := W.sub
  have wD : D ∉ wr := fun m => pD (wsub _ m)
  have wC : C ∉ wr := fun m => pC (wsub _ m)
  have wK : K ∉ wr := fun m => pK (wsub _ m)
  have hlen : vs.length = ns.length := ia.length
  have loop : ∀ s₃ : Shared, s₃ = ⟨h₄, g, d, t, os⟩ → codeAny (model prog w) A (.compLoop (.ListComp elt [⟨.Name x px, iter, [], 0⟩] scope pos) 0 (.ref I) (.ref D) (compEnvC scope ((x, K) :: cl) C env)) (compPost (model prog w) A E none Q (.ref D) C) s₃ := by
    rintro s₃ rfl
    refine codeAny_compLoop_tests
      (fun k s' => Ex6 fun h' tk m' ys i cv => s' = ⟨h', g, d, tk, os⟩ ∧ i ≤ vs.length ∧ k = vs.length + 1 - i ∧ St i h' ∧ h'.PlainList D ys.toArray ∧ h'.Ns C m' ∧ h'.IsCell K cv ∧ ys.length = i ∧
        (∀ (j : Nat) (v : Value), ys[j]? = some v → Ex2 fun b n => ns[j]? = some n ∧ v = .ref b ∧ IL fs h' b (f n) ∧ b ∉ D :: C :: K :: wr) ∧ Ret (D :: C :: K :: wr) fs h₄ h') ?_ (vs.length + 1)
      ⟨h₄, t, _, [], 0, none, rfl, Nat.zero_le _, rfl, hst₄, hD₄, hC₄, hK₄, rfl, by simp, .refl⟩
    rintro k' s' ⟨h', tk, m', ys, i, cv, rfl, hi, rfl, hst', hD', hC', hK', hyl, hys, hr⟩
    have back : ∀ {h'' : Heap}, Ret (D :: C :: K :: wr) fs h₄ h'' → Ret [] fs H₀ h'' := fun r => ((Ret.of_stays fun b o e => k₄ _ _ (k _ _ e)).trans r).less fun a m => by
      simp only [List.mem_cons] at m
      rcases m with rfl | rfl | rfl | m
      · exact .inr kD
      · exact .inr kC
      · exact .inr kK
      · rcases hwr _ m with q | q
        · cases q
        · exact .inr q
    by_cases hlt : i < vs.length
    · refine W.item i _ _ _ hlt hst' fun v h₅ tk₅ hPv hst₅ hk₅ => ?_
      obtain ⟨n, tn, rfl, hn⟩ := ints_at ia (hP _ _ hlt hPv)
      obtain ⟨oc, eoc, doc⟩ := hK'
      have hK₅ : h₅.IsCell K cv := ⟨oc, hk₅ _ _ wK eoc, doc⟩
      refine wpAny_assign_Name (wpAny_storeName_cell hkind (hx K C) (by simp [compEnvC]) hK₅ fun h₆ hv₆ hs₆ => ?_)
      have up : ∀ b o, b ≠ K → b ∉ wr → h'.get? b = some o → h₆.get? b = some o := fun b o b1 b2 e => hs₆.extBut b o b1 (hk₅ b o b2 e)
      have r₆ : Ret (D :: C :: K :: wr) fs h₄ h₆ := hr.trans (.of_ext fun b o nb e => up b o (fun q => nb (by simp [q])) (fun q => nb (by simp [q])) e)
      have hst₆ : St (i + 1) h₆ := W.frame _ _ _ hst₅ fun b hb o e => hs₆.extBut b o (fun q => pK (q ▸ hb)) e
      have hD₆ : h₆.PlainList D ys.toArray := hD'.at fun o e => up D o nDK wD e
      have hC₆ : h₆.Ns C m' := hC'.at' fun o e => up C o nCK wC e
      have hys₆ : ∀ (j : Nat) (v : Value), ys[j]? = some v → Ex2 fun b n => ns[j]? = some n ∧ v = .ref b ∧ IL fs h₆ b (f n) ∧ b ∉ D :: C :: K :: wr := fun j v e => by
        obtain ⟨b, n, q1, q2, q3, q4⟩ := hys j v e
        exact ⟨b, n, q1, q2, q3.at fun o e => up b o (fun q => q4 (by simp [q])) (fun q => q4 (by simp [q])) e, q4⟩
      refine tests0 ?_
      rw [if_pos rfl]
      refine wpAny_mono (turn C K n tn ⟨h₆, g, d, _, os⟩ m' _ (List.mem_of_getElem? hn) hC₆ hv₆ (nfs kK) (back r₆)) (fun y s₇ h₇ => ?_) fun _ _ e => e
      obtain ⟨h₇, tk₇, b, rfl, r₇, rfl, hbn, hb⟩ := h₇
      dsimp only at r₇ hbn hb ⊢
      have hD₇ : h₇.PlainList D ys.toArray := hD₆.at fun o e => r₇.keep D o (by simp) (nfs kD) e
      refine wpAny_list_append_plain (hsz := by simp; rw [sizeLine_eq]; walk_at "o") hD₇ fun h₈ hl₈ hs₈ => ?_
      have nb : b ∉ D :: C :: K :: wr := by
        intro m
        have : ∃ o, h₆.get? b = some o := by
          simp only [List.mem_cons] at m
          rcases m with rfl | rfl | rfl | m
          · exact (LS.of_plain hD₆).there
          · obtain ⟨o, _, _, e, _⟩ := hC₆; exact ⟨o, e⟩
          · obtain ⟨o, e, _⟩ := hv₆; exact ⟨o, e⟩
          · exact hex _ _ hst₆ b m
        obtain ⟨o, e⟩ := this; rw [hbn] at e; cases e
      have up₈ : ∀ c o, c ≠ D → h₇.get? c = some o → h₈.get? c = some o := fun c o h1 e => hs₈.extBut c o h1 e
      have hC₇ := r₇.ns hC₆ (by simp)
      have hK₇ := cell_ret hv₆ r₇ (by simp) (nfs kK)
      refine ⟨vs.length + 1 - (i + 1), by walk_at "o", h₈, tk₇, m', ys ++ [.ref b], i + 1, some (.int n tn), rfl, hlt, rfl, ?_, by simpa using hl₈, hC₇.at' fun o e => up₈ _ _ (Ne.symm nDC) e, ?_, by simp [hyl], ?_, ?_⟩
      · exact W.frame _ _ _ hst₆ fun c hc o e => hs₈.extBut c o (fun q => pD (q ▸ hc)) (r₇.keep c o (by simp) (hfF c hc) e)
      · obtain ⟨o, e, dd⟩ := hK₇
        exact ⟨o, up₈ _ _ (Ne.symm nDK) e, dd⟩
      · intro j v e
        rcases Nat.lt_trichotomy j ys.length with z | z | z
        · rw [List.getElem?_append_left z] at e
          obtain ⟨b', n', q1, q2, q3, q4⟩ := hys₆ j v e
          exact ⟨b', n', q1, q2, (q3.ret r₇ (by simp)).at fun o e => up₈ _ _ (fun q => q4 (by simp [q])) e, q4⟩
        · subst z
          simp at e; subst e
          exact ⟨b, n, hyl ▸ hn, rfl, hb.at fun o e => up₈ _ _ (fun q => nb (by simp [q])) e, nb⟩
        · rw [List.getElem?_eq_none (by simp; walk_at "o")] at e; cases e
      · exact (r₆.trans (r₇.wide (by simp))).trans (.of_but hs₈.extBut (by simp))
    · have hin : i = vs.length := by walk_at "o"
      subst hin
      refine W.done _ _ _ hst' fun h₅ tk₅ hk₅ => ?_
      refine ⟨m', hC'.at' fun o e => hk₅ _ o wC e, fun h₆ hs₆ => ?_⟩
      have up : ∀ b o, b ≠ C → b ∉ wr → h'.get? b = some o → h₆.get? b = some o := fun b o b1 b2 e => hs₆.extBut b o b1 (hk₅ b o b2 e)
      refine fin D h₆ tk₅ kD ⟨ys, (LS.of_plain hD').at fun o e => up D o nDC wD e, nfs kD, by rw [hyl, hlen, List.length_map], fun j v e => ?_⟩ (back (hr.trans (.of_ext fun b o nb e => up b o (fun q => nb (by simp [q])) (fun q => nb (by simp [q])) e)))
      obtain ⟨b, n, q1, q2, q3, q4⟩ := hys j v e
      exact ⟨b, f n, q2, by rw [List.getElem?_map, q1]; rfl, q3.at fun o e => up b o (fun q => q4 (by simp [q])) (fun q => q4 (by simp [q])) e⟩
  show codeAny _ A (.compStart (.ListComp elt [⟨.Name x px, iter, [], 0⟩] scope pos) 0 (.ref I) (.ref D) (compEnvC scope ((x, K) :: cl) C env)) (compPost (model prog w) A E none Q (.ref D) C) _
  exact codeAny_compStart_list (loop _ rfl) (W.self 0 _ _ _ hst₄ (loop _ rfl))
end
end Mine
end

section
open PySem PySem.W PyProof.Rows
set_option maxRecDepth 100000
set_option maxHeartbeats 4000000
namespace Mine
open PySem PySem.Spec PySem.Calls PyProof.Rows PySem.W

noncomputable def b64idx (k : Int) : Int := ((b64L.idxOf k : Nat) : Int)
noncomputable def placesG (k : Int) : Option Int := if k ∈ b64L then some (b64idx k) else none
theorem b64_inj : ∀ i j, i < 64 → j < 64 → b64at ((i : Nat) : Int) = b64at ((j : Nat) : Int) → i = j := by
  have : ∀ i : Fin 64, ∀ j : Fin 64, b64at ((i.val : Nat) : Int) = b64at ((j.val : Nat) : Int) → i = j := by decide +kernel
  intro i j hi hj e
  have := this ⟨i, hi⟩ ⟨j, hj⟩ e
  exact congrArg Fin.val this
theorem places_hg (k m : Int) (e : placesG k = some m) : ∃ i, i < 64 ∧ k = b64at ((i : Nat) : Int) ∧ m = (i : Int) := by
  unfold placesG at e
  by_cases hm : k ∈ b64L
  · rw [if_pos hm] at e
    have hl : b64L.idxOf k < b64L.length := List.idxOf_lt_length_iff.mpr hm
    have h64 : b64L.length = 64 := by decide
    refine ⟨b64L.idxOf k, h64 ▸ hl, ?_, (Option.some.inj e).symm⟩
    unfold b64at
    rw [Int.toNat_natCast, List.getD_eq_getElem?_getD, List.getElem?_eq_getElem hl]
    simp
  · rw [if_neg hm] at e; cases e
theorem places_at {v : Int} (h0 : 0 ≤ v) (h1 : v < 64) : placesG (b64at v) = some v := by
  have : ∀ i : Fin 64, placesG (b64at ((i.val : Nat) : Int)) = some ((i.val : Nat) : Int) := by decide +kernel
  have := this ⟨v.toNat, by walk_at "o"⟩
  rwa [show ((v.toNat : Nat) : Int) = v by walk_at "o"] at this
theorem int_beq (a b : Int) : (a == b) = decide (a = b) := by
  by_cases h : a = b
  · subst h; simp
  · rw [beq_false_of_ne h, decide_eq_false h]
noncomputable def lackL (order : List Int) (v : Int) : List Int := order.filter fun mark => decide ((v.fdiv (2 ^ mark.toNat)).fmod 2 = 1)
theorem two_pow {k : Int} (h0 : 0 ≤ k) (h1 : k < 6) : (2 : Int) ^ k.toNat ≠ 0 ∧ ((2 : Int) ^ k.toNat).natAbs < 1073741824 := by
  have : k.toNat < 6 := by walk_at "o"
  revert this; generalize k.toNat = j; intro hj
  rcases j with _ | _ | _ | _ | _ | _ | j
  all_goals first | decide | omega

section
variable {w : World} {mg mb : Str → Option Value} {hb : Heap} {prog : Program} {A : Around} {outer : List Env} {E : Value → Shared → Prop} {h : Heap} {g : Array GenState} {d : Drawn} {t : Nat} {os : OsState} {L : Addr} {m cm : Str → Option Value} {F : List Fact}

/-- statements 13 and 14 -/
theorem seg_D1 {aS aOr : Addr} {vals row : List Int} {ta : Tok} {Q : Flow → Shared → Prop} (H : Bs w mg mb hb) (B : Below A hb (lEnv L :: outer) h) (hh : A.handled = none)
    (W : Law prog w (L :: fr outer) L (lawCells L) m cm F h) (hS : .il aS (vals.map b64at) ∈ F) (hOr : .il aOr row ∈ F) (ca : cm "alphabet" = some (.bytes alphaB ta)) (cor : cm "order" = some (.ref aOr)) (ms : m "signs" = some (.ref aS))
    (hv : ∀ v ∈ vals, 0 ≤ v ∧ v < 64) (hvl : vals.length ≤ 4) (ro : RowOk row) (hcb : ∀ i : Nat, hb.get? (L + (i + 1) : Nat) = none)
    (k : ∀ h' t' aPl aL, Below A hb (lEnv L :: outer) h' →
      Law prog w (L :: fr outer) L (lawCells L) m (fun z => if z = "lacks" then some (.ref aL) else if z = "places" then some (.ref aPl) else cm z) (.ll aL (vals.map (lackL row)) :: F) h' →
      Ret (XC L) (L :: fr outer) h h' → wpAny (model prog w) A (execs (lawB.drop 15) (lEnv L)) Q E ⟨h', g, d, t', os⟩) :
    wpAny (model prog w) A (execs (lawB.drop 13) (lEnv L)) Q E ⟨h, g, d, t, os⟩ := by
  have eB : lawB.drop 13 = _ :: _ := rfl
  rw [eB]; clear eB
  -- places
  refine wpQS ?_
  intro Q₀ s₀
  refine wpAny_execs_cons (asgC (hb := hb) (outer := outer) rfl rfl (dcomp (n := 64) (cl := [("alphabet", L + 4)]) (fs := L :: fr outer) (fun i => b64at ((i : Nat) : Int)) placesG b64_inj places_hg rfl (by decide) rfl (by decide) rfl hh (by decide) ?_) (hcb 5))
  refine Call_of rfl (gB (v := .type "range") H B.stays (by kernel_rfl) (by kernel_rfl) (sp1 (wpAny_Constant_int (sp0 ⟨keeps_type, range_1 fun r h₁ t₁ u1 u2 u3 k₁ hrn hr => ?_⟩))))
  have W₁ := W.stays k₁
  have B₁ := below_kept B k₁
  refine ⟨r, _, _, _, rfl, hr, fs_of B₁ rfl, ?_, ?_, ?_⟩
  · intro C i t₂ s₃ m₃ E' hi hnC hm r₃
    have W' := W₁.ret0 r₃
    have hcell : s₃.heap.IsCell (L + 4) (some (.bytes alphaB ta)) := by have := (W'.cl "alphabet" (L + 4) rfl).1; rwa [ca] at this
    exact Subscript_ (gC rfl hcell (gL hnC hm (KBw.item_K alphaB_ints (by decide) (by walk_at "o") (by show _ < (64 : Int); walk_at "o") fun t' k' _ _ => ⟨⟨t', rfl⟩, s₃.heap, k', rfl, fun b o e => e⟩)))
  · intro C i t₂ s₃ m₃ E' hi hnC hm
    exact gL hnC hm ⟨⟨t₂, rfl⟩, s₃.heap, s₃.toks, rfl, fun b o e => e⟩
  intro aP h₂ t₂ hPn hP r₂
  show Ex5 fun h₁ t₁ m₁ cm₁ F₁ => _
  refine ⟨h₂, t₂, _, _, _, rfl, br_of B₁ rfl r₂, (W₁.ret0 r₂).add (f := .di aP _) hP, fun h₃ t₃ B₃ W₃ r₃ => ?_⟩
  have R₃ : Ret (XC L) (L :: fr outer) h h₃ := ((Ret.of_stays k₁).trans (r₂.wide (by simp))).trans (r₃.wide (by simp))
  clear r₂ r₃ W₁ W k₁ hP hPn B₁ B hr hrn
  -- lacks
  refine wpQS ?_
  intro Q₀ s₀
  refine wpAny_execs_cons (asgC (hb := hb) (outer := outer) rfl rfl (lcompC (cl := [("places", L + 6), ("order", L + 8)]) (fs := L :: fr outer) (fun sg => lackL row (b64idx sg)) rfl rfl (by decide) (fun _ => rfl) (fun _ => rfl) (fun _ _ => rfl) hh (gL W₃.ns (by walk_at "m") ?_)) (hcb 6))
  refine ⟨aS, vals.map b64at, rfl, W₃.fa (.il aS _) (by simp [hS]), by rw [List.length_map]; omega, fs_of B₃ rfl, ?_, ?_⟩
  · intro C K sg tk s₄ m₄ E' hsg hnC hK hKf r₄
    obtain ⟨v, hvm, rfl⟩ := List.mem_map.mp hsg
    obtain ⟨v0, v1⟩ := hv v hvm
    have W₄ := W₃.ret0 r₄
    have hor : s₄.heap.IsCell (L + 8) (some (.ref aOr)) := by have := (W₄.cl "order" (L + 8) rfl).1; rwa [show (if Str.ofString "order" = Str.ofString "places" then some (Value.ref aP) else cm (Str.ofString "order")) = some (.ref aOr) by walk_at "m"] at this
    refine icompL (cl := [("sign", K), ("places", L + 6)]) (fs := L :: fr outer) (fun mark => decide ((v.fdiv (2 ^ mark.toNat)).fmod 2 = 1)) id rfl (by decide) rfl (by decide) rfl hh (gC rfl hor ?_)
    refine ⟨aOr, row, rfl, W₄.fa (.il aOr row) (by simp [hOr]), by rw [ro.len]; omega, fun b mb => by obtain ⟨_, o, e, _⟩ := fr_there (br_of B₃ rfl r₄).frames (a := b) (by rw [fr_cons rfl]; exact mb); exact ⟨o, e⟩, ?_, ?_, ?_⟩
    · intro C₅ mk tk₅ s₅ m₅ E₅ hmk hnC₅ hm₅ r₅
      have W₅ := W₄.ret0 r₅
      have hpl : s₅.heap.IsCell (L + 6) (some (.ref aP)) := by have := (W₅.cl "places" (L + 6) rfl).1; rwa [if_pos rfl] at this
      have hK₅ := cell_ret hK r₅ (by simp) hKf
      obtain ⟨m0, m1⟩ := ro.rg mk hmk
      have tp := two_pow m0 m1
      have hpv := places_at v0 v1
      refine tests1 (wpAny_isTrue_Compare1 (wpAny_BinOp (wpAny_BinOp (Sub_di (gC rfl hpl (gC rfl hK₅ ⟨_, aP, placesG, b64at v, tk, v, rfl, rfl, W₅.fa (.di aP placesG) (by simp), hpv, fun u => ?_⟩))))))
      refine wpAny_BinOp (wpAny_Constant_int (gL hnC₅ hm₅ (pow_int_small m0 (by walk_at "o") (by decide) (floordiv_int tp.1 (wpAny_Constant_int (mod_int (by decide) (wpAny_Constant_int (eq_int (wpAny_truthy_bool ⟨int_beq _ _, s₅.heap, _, rfl, .refl⟩))))) (.inl (PyProof.noPylong_small tp.2))))))
    · intro C₅ mk tk₅ s₅ m₅ E₅ hmk _ hnC₅ hm₅ r₅
      exact gL hnC₅ hm₅ ⟨s₅.heap, s₅.toks, tk₅, rfl, .refl, rfl⟩
    · intro D h₅ t₅ hDn hD r₅
      refine ⟨h₅, t₅, D, rfl, r₅, rfl, hDn, ?_⟩
      rw [List.map_id] at hD
      have hx : b64idx (b64at v) = v := by
        have := places_at v0 v1
        unfold placesG at this
        split at this
        · exact Option.some.inj this
        · cases this
      show IL _ _ _ (lackL row (b64idx (b64at v)))
      rw [hx]; exact hD
  · intro aL h₄ t₄ hLn hLl r₄
    refine ⟨h₄, t₄, _, _, _, rfl, br_of B₃ rfl r₄, (W₃.ret0 r₄).add (f := .ll aL _) hLl, fun h₅ t₅ B₅ W₅ r₅ => ?_⟩
    have R₅ : Ret (XC L) (L :: fr outer) h h₅ := (R₃.trans (r₄.wide (by simp))).trans (r₅.wide (by simp))
    have hll : (vals.map b64at).map (fun sg => lackL row (b64idx sg)) = vals.map (lackL row) := by
      rw [List.map_map]
      refine List.map_congr_left fun v hvm => ?_
      obtain ⟨v0, v1⟩ := hv v hvm
      have := places_at v0 v1
      unfold placesG at this
      split at this
      · show lackL row (b64idx (b64at v)) = _
        rw [Option.some.inj this]
      · cases this
    rw [hll] at W₅
    refine k h₅ t₅ aP aL B₅ (W₅.only ?_) R₅
    intro f mf
    rcases List.mem_cons.mp mf with rfl | mf
    · simp
    · simp [mf]
end
end Mine
end

section
set_option maxRecDepth 100000
set_option maxHeartbeats 4000000
namespace Mine
open PySem

noncomputable def esOf (sets : List (List Int)) : List (List Int ⊕ Int) :=
  (List.range (2 * sets.length - 1)).map fun i => if i % 2 = 0 then .inl (sets.getD (i / 2) []) else .inr ((i / 2 + 1 : Nat) : Int)
theorem esOf_snoc {sets : List (List Int)} (x : List Int) (hs : sets ≠ []) : esOf (sets ++ [x]) = esOf sets ++ [.inr ((sets.length : Nat) : Int), .inl x] := by
  have hl : 0 < sets.length := List.length_pos_iff.mpr hs
  unfold esOf
  have e : 2 * (sets ++ [x]).length - 1 = (2 * sets.length - 1) + 1 + 1 := by simp; omega
  rw [e, List.range_succ, List.range_succ, List.map_append, List.map_append, List.append_assoc]
  congr 1
  · refine List.map_congr_left fun i hi => ?_
    have hi := List.mem_range.mp hi
    split
    · rename_i h2
      congr 1
      rw [List.getD_eq_getElem?_getD, List.getD_eq_getElem?_getD, List.getElem?_append_left (by walk_at "o")]
    · rfl
  · rw [List.map_singleton, List.map_singleton, if_neg (by walk_at "o"), if_pos (by walk_at "o")]
    have e1 : (2 * sets.length - 1) / 2 + 1 = sets.length := by walk_at "o"
    have e2 : (2 * sets.length - 1 + 1) / 2 = sets.length := by walk_at "o"
    rw [e1, e2]
    simp
noncomputable def lastS (sets : List (List Int)) : List Int := sets.getD (sets.length - 1) []
noncomputable def stepS (lks : List (List Int)) (on : List Int) (s : List (List Int)) : List (List Int) :=
  if lastS s = on then s else s ++ (match nextL lks on on.reverse (lastS s) with | some wd => [wd] | none => [])
noncomputable def toldS (lks : List (List Int)) (on : List Int) : Nat → List (List Int)
  | 0 => [sharedL lks on []]
  | i + 1 => stepS lks on (toldS lks on i)
structure ToldOk (lks : List (List Int)) (on : List Int) : Prop where
  len : ∀ i, (lastS (toldS lks on i)).length ≤ 900
  ct : ∀ i, lastS (toldS lks on i) ≠ on → (toldS lks on i).length = i + 1
  cl : ∀ i, (toldS lks on i).length ≤ i + 1
  nx : ∀ i, i < 16 → lastS (toldS lks on i) ≠ on → ∃ wd, nextL lks on on.reverse (lastS (toldS lks on i)) = some wd
theorem stepS_len (lks : List (List Int)) (on : List Int) (s : List (List Int)) : (stepS lks on s).length ≤ s.length + 1 := by
  unfold stepS; split
  · omega
  · rw [List.length_append]; split <;> simp
theorem toldS_len (lks : List (List Int)) (on : List Int) : ∀ i, (toldS lks on i).length ≤ i + 1
  | 0 => Nat.le_refl _
  | i + 1 => Nat.le_trans (stepS_len _ _ _) (Nat.succ_le_succ (toldS_len lks on i))
theorem stepS_ne {lks : List (List Int)} {on : List Int} {s : List (List Int)} (h : s ≠ []) : stepS lks on s ≠ [] := by
  unfold stepS; split
  · exact h
  · simp [h]
theorem toldS_ne (lks : List (List Int)) (on : List Int) : ∀ i, toldS lks on i ≠ []
  | 0 => by simp [toldS]
  | i + 1 => stepS_ne (toldS_ne lks on i)
theorem esOf_last {sets : List (List Int)} (hs : sets ≠ []) : (esOf sets).length = 2 * sets.length - 1 ∧ (esOf sets)[2 * sets.length - 1 - 1]? = some (.inl (lastS sets)) := by
  have hl : 0 < sets.length := List.length_pos_iff.mpr hs
  refine ⟨by simp [esOf], ?_⟩
  unfold esOf
  rw [List.getElem?_map, List.getElem?_range (by walk_at "o"), Option.map_some, if_pos (by walk_at "o")]
  unfold lastS
  congr 3; omega


end Mine
end

section
open PySem PySem.W PyProof.Rows
set_option maxRecDepth 100000
set_option maxHeartbeats 4000000
namespace Mine
open PySem PySem.Spec PySem.Calls PyProof.Rows PySem.W

section
variable {w : World} {mg mb : Str → Option Value} {hb : Heap} {prog : Program} {A : Around} {outer : List Env} {E : Value → Shared → Prop} {h : Heap} {g : Array GenState} {d : Drawn} {t : Nat} {os : OsState} {s : Shared}

/-- l[-1] -/
theorem Sub_last {value slice : Expr} {env : Env} {pos : Pos} {Q : Value → Shared → Prop}
    (x : wpAny (model prog w) A (eval value env) (fun o s₁ => wpAny (model prog w) A (eval slice env) (fun i s₂ => Ex4 fun l items t x => o = .ref l ∧ i = .int (-1) t ∧ LS s₂.heap l items ∧ 0 < items.length ∧ items[items.length - 1]? = some x ∧ Q x s₂) E s₁) E s) :
    wpAny (model prog w) A (eval (.Subscript value slice pos) env) Q E s := by
  refine Subscript_ (wpAny_mono x (fun o s₁ h₁ => wpAny_mono h₁ (fun i s₂ h₂ => ?_) fun _ _ e => e) fun _ _ e => e)
  obtain ⟨l, items, t, x, rfl, rfl, hl, h0, hx, hQ⟩ := h₂
  refine SubTail hl.il.typeIs list_getitem_lookup (wpAny_getItem_list_neg hl.il (by decide) (by rw [List.size_toArray]; walk_at "o") (by decide) ?_ hQ)
  rw [List.size_toArray, show (-1 + (items.length : Int)).toNat = items.length - 1 by walk_at "o"]
  simpa using hx

noncomputable def toldLam : Expr := (argsE (bodyA (nth lawB 15))).headD (.Constant .none 0 ⟨0,0,0,0⟩)

structure LamT (on : List Int) (lks : List (List Int)) (lam c' cO cL aOr aL : Addr) (name qual : Str) (params : Arguments) (body : Expr) (scope : Scope) (cl : List (Str × Addr)) (pm ctv : Value) (fs : List Addr) (h : Heap) : Prop where
  ho : h.get? lam = some (kla_obj name qual params body scope cl pm c' ctv)
  hof : lam ∉ fs
  cd : h.CodeRec (.ref c') qual
  cdf : c' ∉ fs
  c1 : h.IsCell cO (some (.ref aOr))
  c1f : cO ∉ fs
  c2 : h.IsCell cL (some (.ref aL))
  c2f : cL ∉ fs
  il : IL fs h aOr on
  ll : LL fs h aL lks
section
variable {on : List Int} {lks : List (List Int)} {lam c' cO cL aOr aL : Addr} {name qual : Str} {params : Arguments} {body : Expr} {scope : Scope} {cl : List (Str × Addr)} {pm ctv : Value} {fs : List Addr} {h' : Heap}
theorem LamT.ret0 (x : LamT on lks lam c' cO cL aOr aL name qual params body scope cl pm ctv fs h) (r : Ret [] fs h h') : LamT on lks lam c' cO cL aOr aL name qual params body scope cl pm ctv fs h' :=
  ⟨r.keep _ _ (by simp) x.hof x.ho, x.hof, rec_at x.cd fun o e => r.keep _ _ (by simp) x.cdf e, x.cdf, cell_ret x.c1 r (by simp) x.c1f, x.c1f, cell_ret x.c2 r (by simp) x.c2f, x.c2f, x.il.ret r (by simp), x.ll.ret r (by simp)⟩
theorem LamT.more {L : Addr} (x : LamT on lks lam c' cO cL aOr aL name qual params body scope cl pm ctv fs h) (hL : h.get? L = none) : LamT on lks lam c' cO cL aOr aL name qual params body scope cl pm ctv (L :: fs) h := by
  have nx : ∀ {b : Addr}, (∃ o₁, h.get? b = some o₁) → b ∉ fs → b ∉ L :: fs := fun ⟨_, e⟩ nf m => by
    rcases List.mem_cons.mp m with rfl | m
    · rw [hL] at e; cases e
    · exact nf m
  refine ⟨x.ho, nx ⟨_, x.ho⟩ x.hof, x.cd, nx ?_ x.cdf, x.c1, nx ?_ x.c1f, x.c2, nx ?_ x.c2f, x.il.more ?_, x.ll.more hL⟩
  · obtain ⟨_, oc, _, _, e, ho, _⟩ := x.cd; cases e; exact ⟨_, ho⟩
  · obtain ⟨o, e, _⟩ := x.c1; exact ⟨_, e⟩
  · obtain ⟨o, e, _⟩ := x.c2; exact ⟨_, e⟩
  · rintro rfl; obtain ⟨o, e⟩ := x.il.there; rw [hL] at e; cases e
end

theorem ls_inj {h : Heap} {a : Addr} {vs ws : List Value} (x : LS h a vs) (y : LS h a ws) : vs = ws := by
  obtain ⟨n, e⟩ := x
  obtain ⟨n', e'⟩ := y
  rw [e] at e'
  have := congrArg (fun o : Option Obj => o.map (·.data)) e'
  simp at this
  exact this.1
/-- the telling's step -/
theorem told_lam {on : List Int} {lks sets : List (List Int)} {lam c' cO cL aOr aL a : Addr} {name qual : Str} {pm ctv : Value} {n : Int} {tn : Tok} {Q : Value → Shared → Prop} (H : Bs w mg mb hb) (B : Below A hb outer s.heap)
    (hd : A.depth + 20 < recursionLimit) (hh : A.handled = none) (hu : A.units + 500 < cLine)
    (J : LamT on lks lam c' cO cL aOr aL name qual (lamPar toldLam) (lamBody toldLam) (lamSc toldLam) [("order", cO), ("lacks", cL)] pm ctv (fr outer) s.heap) {av : List Addr} (hav : ∀ b ∈ av, ∃ ob, s.heap.get? b = some ob) (hoav : aOr ∉ av) (hs : ML (av ++ fr outer) s.heap a (esOf sets)) (hne : sets ≠ []) (hn : lastS sets ≠ on → n = ((sets.length : Nat) : Int)) (hz : sets.length ≤ 100)
    (b1 : on.length ≤ 900) (b2 : (lastS sets).length ≤ 900) (b3 : lks.length ≤ 900) (hnx : lastS sets ≠ on → ∃ wd, nextL lks on on.reverse (lastS sets) = some wd)
    (k : ∀ r h' tk, (r = a ∨ s.heap.get? r = none) → ML (av ++ fr outer) h' r (esOf (stepS lks on sets)) → Ret [] (fr outer) s.heap h' → Q (.ref r) { s with heap := h', toks := tk }) :
    wpAny (model prog w) A (call (.ref lam) [.ref a, .int n tn]) Q E s := by
  refine wpAny_call (enterHE (outer := outer) (binds := [("found", .ref a), ("turn", .int n tn)]) H B (by walk_at "o") J.ho J.cd rfl (locs rfl) (by decide +kernel) (fun L h₁ hL hn₁ k₁ B₁ => ?_) rfl rfl rfl)
  have eB : lamBody toldLam = .IfExp _ _ _ _ := rfl
  rw [eB]; clear eB
  obtain ⟨h₀, g, d, t, os⟩ := s
  dsimp only at *
  have hLn : h₀.get? L = none := Heap.get?_none_of_le (by rw [hL]; exact Nat.le_refl _)
  have J₁ := (J.more hLn).ret0 (.of_stays k₁)
  have M₁ := ((hs.sub fun b m => List.mem_append_right _ m).more hLn).stays k₁
  obtain ⟨el, elast⟩ := esOf_last hne
  have hl0 : 0 < sets.length := List.length_pos_iff.mpr hne
  obtain ⟨vs, ls, anf, mp⟩ := M₁
  have hvl : vs.length = 2 * sets.length - 1 := mp.length.trans el
  obtain ⟨b, hb1, hbl⟩ := mp.inl elast
  obtain ⟨bv, bls, bia, bnf⟩ := id hbl
  obtain ⟨ov, ols, oia, onf⟩ := id J₁.il
  have slen : vs.length + 4 ≤ sizeLine := by rw [sizeLine_eq]; omega
  refine IfExp_ (wpAny_isTrue_Compare1 (Sub_last (gL hn₁ (by walk_at "m") (wpAny_UnaryOp (wpAny_Constant_int (neg_int ⟨a, vs, _, _, rfl, rfl, ls, by walk_at "o", by rw [hvl]; exact hb1, ?_⟩))))))
  refine gF rfl J₁.c1 (ke_eq_ints bls.il ols.il bia oia (by show A.units + 3 + 64 < _; walk_at "o") (wpAny_truthy_bool ?_))
  by_cases q : lastS sets = on
  · rw [if_pos (by simp [q])]
    exact gL hn₁ (by walk_at "m") (k a h₁ _ (.inl rfl) (by rw [stepS, if_pos q]; exact hs.stays k₁) (.of_stays k₁))
  rw [if_neg (by simp [q])]
  obtain ⟨wd, hwd⟩ := hnx q
  have f130 : (TopF w.params).lookup 130 = some ⟨_, _, .func (fnX _ _ _ _ _ _ _ _ _ _ _ _ _), _⟩ := rfl
  refine wpAny_BinOp (wpAny_BinOp (gL hn₁ (by walk_at "m") (Disp (sp1 (gL hn₁ (by walk_at "m") (sp0 ⟨by simp [sizeLine_eq], fun D₂ h₂ k₂ hD₂n hD₂ => add_ll (ls.at (k₂ _)) hD₂ (by simp; walk_at "o") fun D₃ h₃ k₃ hD₃n hD₃ => ?_⟩))))))
  have k₁₃ : h₁.StaysIn h₃ := fun b o e => k₃ _ _ (k₂ _ _ e)
  have hn₃ := hn₁.keeps k₁₃
  have J₃ := J₁.ret0 (.of_stays k₁₃)
  have B₃ := below_kept B₁ k₁₃
  have ls₃ := ls.at (k₁₃ a)
  refine Call_of rfl (gG (v := .ref 130) H B₃.stays (by kernel_rfl) (sp1 (gF rfl J₃.c2 (sp1 (gF rfl J₃.c1 (sp1 (Sub_last (gL hn₃ (by walk_at "m") (wpAny_UnaryOp (wpAny_Constant_int (neg_int ⟨a, vs, _, _, rfl, rfl, ls₃, by walk_at "o", by rw [hvl]; exact hb1, sp0 ⟨keeps_func (B₃.stays _ _ (H.X _ _ f130)) rfl, ?_⟩⟩)))))))))))
  refine next_fn (lks := lks) (on := on) (hn := lastS sets) H B₃ (by show A.depth + 1 + 8 < _; walk_at "o") hh (by show A.units + 3 + 300 < _; walk_at "o") (by rw [fr_cons rfl]; exact J₃.ll) (by rw [fr_cons rfl]; exact J₃.il) (by rw [fr_cons rfl]; exact hbl.at (k₁₃ b)) b1 b2 b3 fun r h₄ t₄ hrn hr hrav r₄ => ?_
  rw [fr_cons rfl] at hr r₄
  rw [hwd] at hr
  obtain ⟨rv, rls, rnf, rp⟩ := hr
  have hrl : rv.length = 1 := rp.1
  obtain ⟨x, rfl⟩ : ∃ x, rv = [x] := by
    match rv, hrl with
    | [x], _ => exact ⟨x, rfl⟩
  obtain ⟨bx, nx, rfl, ex, ix⟩ := rp.get (i := 0) rfl
  simp at ex; subst ex
  have nf₃ := fresh_notin (below_kept B₁ k₂).frames hD₃n
  rw [fr_cons rfl] at nf₃
  have ls₄ : LS h₄ D₃ (vs ++ [.int n tn]) := hD₃.ret r₄ (by simp) nf₃
  refine add_ll ls₄ rls (by simp; walk_at "o") fun D₅ h₅ k₅ hD₅n hD₅ => ?_
  have r₅ : Ret [] (L :: fr outer) h₁ h₅ := ((Ret.of_stays k₁₃).trans r₄).trans (.of_stays k₅)
  have B₄ : Below (A.deeper _) hb _ h₄ := below_ret B₃ (by rw [fr_cons rfl]; exact r₄)
  have nf₅ := fresh_notin B₄.frames hD₅n
  rw [fr_cons rfl] at nf₅
  have n₅ : h₀.get? D₅ = none := stays_none k₁ (((Ret.of_stays (X := []) (fs := L :: fr outer) k₁₃).trans r₄).none hD₅n (by simp) nf₅)
  refine k D₅ h₅ _ (.inr n₅) ?_ (Ret.leave (X := []) hL k₁ (r₅.wide (by simp)))
  have hst : esOf (stepS lks on sets) = (esOf sets ++ [.inr n]) ++ [.inl wd] := by rw [stepS, if_neg q, hwd, esOf_snoc _ hne, hn q]; simp
  rw [hst]
  obtain ⟨vs₀, ls₀, af₀, mp₀⟩ := hs
  have evs : vs₀ = vs := ls_inj ((ls₀.at (k₁ a))) ls
  subst evs
  have hR₁ := hrav av (fun b mb => by obtain ⟨o, e⟩ := hav b mb; exact ⟨o, k₁₃ _ _ (k₁ _ _ e)⟩) hoav
  rw [hwd] at hR₁
  obtain ⟨rv', rls', _, rp'⟩ := hR₁
  have erv := ls_inj rls' rls
  subst erv
  obtain ⟨bx', nx', ebx, ex', ix'⟩ := rp'.get (i := 0) rfl
  simp at ex'; subst ex'
  injection ebx with ebx
  subst ebx
  have xav : ∀ {b : Addr}, (∀ o, h₀.get? b = some o → False) → b ∉ av := fun e m => by obtain ⟨o, e'⟩ := hav _ m; exact e o e'
  have keepIL : ∀ b ns, IL (av ++ fr outer) h₀ b ns → IL (av ++ fr outer) h₅ b ns := fun b ns z => by
    obtain ⟨z1, z2, z3, z4⟩ := z
    obtain ⟨o, e⟩ := z2.there
    have nbL : b ≠ L := fun q => by rw [q, hLn] at e; cases e
    have nbf : b ∉ L :: fr outer := fun m => by
      rcases List.mem_cons.mp m with m | m
      · exact nbL m
      · exact z4 (List.mem_append_right _ m)
    exact ⟨z1, (z2.at (k₁ b)).ret r₅ (by simp) nbf, z3, z4⟩
  have ix₅ : IL (av ++ fr outer) h₅ bx wd := by
    obtain ⟨z1, z2, z3, z4⟩ := ix'
    refine ⟨z1, z2.at (k₅ bx), z3, fun m => ?_⟩
    rcases List.mem_append.mp m with m | m
    · exact z4 (List.mem_append_left _ m)
    · exact z4 (List.mem_append_right _ (by rw [fr_cons rfl]; exact .tail _ m))
  refine ⟨_, hD₅, fun m => ?_, ((mp₀.mono keepIL).append (.num .nil)).append (.lst ix₅ .nil)⟩
  rcases List.mem_append.mp m with m | m
  · obtain ⟨o, e⟩ := hav _ m; rw [n₅] at e; cases e
  · exact nf₅ (.tail _ m)
end
end Mine
end

section
open PySem PySem.W PyProof.Rows
set_option maxRecDepth 100000
set_option maxHeartbeats 4000000
namespace Mine
open PySem PySem.Spec PySem.Calls PyProof.Rows PySem.W

theorem Ret.morefs {X fs fs' : List Addr} {h h' : Heap} (r : Ret X fs h h') (k : ∀ b ∈ fs, b ∈ fs') : Ret X fs' h h' := ⟨fun b o n nf e => r.keep b o n (fun m => nf (k b m)) e, r.slots⟩
section
variable {w : World} {mg mb : Str → Option Value} {hb : Heap} {prog : Program} {A : Around} {outer : List Env} {E : Value → Shared → Prop} {h : Heap} {g : Array GenState} {d : Drawn} {t : Nat} {os : OsState} {L : Addr} {m cm : Str → Option Value} {F : List Fact}

/-- statement 15 -/
theorem seg_D2 {aOr aL c₀ : Addr} {row : List Int} {lks : List (List Int)} {Q : Flow → Shared → Prop} (H : Bs w mg mb hb) (B : Below A hb (lEnv L :: outer) h) (hh : A.handled = none) (hd : A.depth + 40 < recursionLimit) (hu : A.units + 1000 < cLine)
    (hbm : Bm mg hb) (C139 : CodeHd hb 141 139) (n139' : hb.get? 139 = none) (T97 : ∃ ps, h.get? 97 = some (tabObj ps)) (T139 : h.get? 139 = some (tabObj #[rawInt 142, rawInt 44, .ref c₀]))
    (f97 : 97 ∉ L :: fr outer) (f139 : 139 ∉ L :: fr outer) (hL : 139 < L)
    (W : Law prog w (L :: fr outer) L (lawCells L) m cm F h) (hOr : .il aOr row ∈ F) (hLk : .ll aL lks ∈ F) (cor : cm "order" = some (.ref aOr)) (clk : cm "lacks" = some (.ref aL)) (b1 : row.length ≤ 900) (b3 : lks.length ≤ 900) (tok : ToldOk lks row)
    (k : ∀ h' t' aT c', Below A hb (lEnv L :: outer) h' → Law prog w (L :: fr outer) L (lawCells L) (fun z => if z = "told" then some (.ref aT) else m z) cm (.ml aT (esOf (toldS lks row 16)) :: F) h' →
      (∃ ps, h'.get? 97 = some (tabObj ps)) → h'.get? 139 = some (tabObj (#[rawInt 142, rawInt 44, .ref c₀] ++ #[rawInt 152, rawInt 18, .ref c'])) → Ret (XL L) (L :: fr outer) h h' → wpAny (model prog w) A (execs (lawB.drop 16) (lEnv L)) Q E ⟨h', g, d, t', os⟩) :
    wpAny (model prog w) A (execs (lawB.drop 15) (lEnv L)) Q E ⟨h, g, d, t, os⟩ := by
  have eB : lawB.drop 15 = _ :: _ := rfl
  rw [eB]; clear eB
  have f111 : (TopF w.params).lookup 111 = some ⟨_, _, .func (fnX _ _ _ _ _ _ _ _ _ _ _ _ _), _⟩ := rfl
  have f123 : (TopF w.params).lookup 123 = some ⟨_, _, .func (fnX _ _ _ _ _ _ _ _ _ _ _ _ _), _⟩ := rfl
  refine wpQS ?_
  intro Q₀ s₀
  refine wpAny_execs_cons (asgL (hb := hb) (outer := outer) rfl (Call_of rfl (gG (v := .ref 111) H B.stays (by kernel_rfl) (sp1 (lam_mk (c := 141) (P := 139) H hbm B.stays (C139.keeps B.stays) T139 (by simp [TriplesOk, rawInt]) (by simp [codeAmong, rawInt]) rfl rfl rfl rfl fun lam c' ctv pm h₁ t₁ lamn cn hlam hc' T139₁ k₁ => sp1 ?_)))))
  have R₁ : Ret [139] (L :: fr outer) h h₁ := .of_ext fun b o hb' e => k₁ b o (fun q => hb' (by simp [q])) e
  have B₁ : Below A hb (lEnv L :: outer) h₁ := below_retX (X := [139]) B (fun a ma => by rw [List.mem_singleton.mp ma]; exact ⟨n139', by rw [fr_cons rfl]; exact f139⟩) (by rw [fr_cons rfl]; exact R₁)
  have W₁ := W.tab R₁ T139
  have J₁ : LamT row lks lam c' (L + 8) (L + 7) aOr aL _ _ (lamPar toldLam) (lamBody toldLam) (lamSc toldLam) [("order", L + 8), ("lacks", L + 7)] pm ctv (L :: fr outer) h₁ :=
    ⟨hlam, fn_of B rfl lamn, hc', fn_of B rfl cn, by have := (W₁.cl "order" (L + 8) rfl).1; rwa [cor] at this, (W₁.cl "order" (L + 8) rfl).2, by have := (W₁.cl "lacks" (L + 7) rfl).1; rwa [clk] at this, (W₁.cl "lacks" (L + 7) rfl).2, W₁.fa _ hOr, W₁.fa _ hLk⟩
  refine Call_of rfl (gB (v := .type "range") H B₁.stays (by kernel_rfl) (by kernel_rfl) (sp1 (wpAny_Constant_int (sp1 (wpAny_Constant_int (sp0 ⟨keeps_type, range_2 fun rr h₂ t₂ u1 u2 u3 k₂ hrn hr => sp1 (Disp (sp1 ?_))⟩))))))
  have J₂ := J₁.ret0 (.of_stays k₂)
  have B₂ := below_kept B₁ k₂
  refine Call_of rfl (gG (v := .ref 123) H B₂.stays (by kernel_rfl) (sp1 (gC rfl J₂.c2 (sp1 (gC rfl J₂.c1 (sp1 (Disp (sp0 ⟨by simp, fun N h₃ k₃ hNn hN => sp0 ⟨keeps_func (k₃ _ _ (B₂.stays _ _ (H.X _ _ f123))) rfl, ?_⟩⟩))))))))
  have J₃ := J₂.ret0 (.of_stays k₃)
  have B₃ := below_kept B₂ k₃
  refine shared_fn (outer := lEnv L :: outer) (lks := lks) (on := row) (hn := []) H B₃ (by walk_at "o") hh (by walk_at "o") (by rw [fr_cons rfl]; exact J₃.ll) (by rw [fr_cons rfl]; exact J₃.il) ⟨[], hN, .nil, fresh_notin B₂.frames hNn⟩ (by walk_at "o") (by simp) (by walk_at "o") fun r₄ h₄ t₄ hro hri R₄ => sp0 ⟨by simp [sizeLine_eq], fun D h₅ k₅ hDn hD => sp0 ?_⟩
  rw [fr_cons rfl] at R₄
  have R₁₅ : Ret [] (L :: fr outer) h₁ h₅ := (((Ret.of_stays k₂).trans (.of_stays k₃)).trans R₄).trans (.of_stays k₅)
  have J₅ := J₁.ret0 R₁₅
  have B₅ := br_of B₁ rfl R₁₅
  have hri₅ := hri.at (k₅ r₄)
  have B₄ := br_of B₃ rfl R₄
  have hr₅ : IsRange h₅ rr 1 17 1 u1 u2 u3 := k₅ _ _ (R₄.keep _ _ (by simp) (fn_of B₁ rfl hrn) (k₃ _ _ hr))
  refine ⟨keeps_func (B₅.stays _ _ (H.X _ _ f111)) rfl, ?_⟩
  refine reduce_fn (outer := lEnv L :: outer) (fun av i v h => ∃ a, v = .ref a ∧ aOr ∉ av ∧ ML (av ++ fr (lEnv L :: outer)) h a (esOf (toldS lks row i))) H B₅ (by walk_at "o") hh rfl J₅.ho rfl (by rw [fr_cons rfl]; exact J₅.hof) hD (ItSrc.range (n := 16) hr₅ (by decide +kernel) (by decide +kernel)) (by simp) ?_ ?_ ?_ ?_
  · intro av h' hav kh
    have xav : ∀ {b : Addr}, (∃ o, h₅.get? b = some o) → b ∉ av := fun ⟨o, e⟩ m => by rw [hav _ m] at e; cases e
    obtain ⟨z1, z2, z3, z4⟩ := hri₅
    refine ⟨D, rfl, xav J₅.il.there, [.ref r₄], hD.at (kh D), fun m => ?_, ?_⟩
    · rcases List.mem_append.mp m with m | m
      · exact xav hD.there m
      · exact fresh_notin B₄.frames hDn m
    · show MP _ _ [.ref r₄] [.inl _]
      refine .lst ⟨z1, z2.at (kh r₄), z3, fun m => ?_⟩ .nil
      rcases List.mem_append.mp m with m | m
      · exact xav z2.there m
      · exact z4 m
  · rintro av i v h h' ⟨a, rfl, hoa, vs, l, f, p⟩ kk
    exact ⟨a, rfl, hoa, vs, l.at fun o e => kk a o (fun m => f (List.mem_append_left _ m)) e, f, p.mono fun b ns ⟨z1, z2, z3, z4⟩ => ⟨z1, z2.at fun o e => kk b o (fun m => z4 (List.mem_append_left _ m)) e, z3, z4⟩⟩
  · rintro env' L' A' s' av i v el E' hf' hL' hLav hi ⟨tn, rfl⟩ ⟨a, rfl, hoa, hM⟩ hex r₃ B' hdep hh' hun
    rw [fr_cons rfl] at r₃
    have J' := (J₅.more hL').ret0 (r₃.morefs fun b m => .tail _ m)
    have sub1 : ∀ b ∈ av ++ fr (env' :: lEnv L :: outer), b ∈ av ++ fr (lEnv L :: outer) := fun b m => by
      rw [fr_cons hf'] at m
      rcases List.mem_append.mp m with m | m
      · exact List.mem_append_left _ m
      · rcases List.mem_cons.mp m with rfl | m
        · exact List.mem_append_left _ hLav
        · exact List.mem_append_right _ m
    refine told_lam (outer := env' :: lEnv L :: outer) (sets := toldS lks row i) (av := av) H B' (by rw [hdep]; walk_at "o") hh' (by walk_at "o") (by rw [fr_cons hf', fr_cons rfl]; exact J') hex hoa (hM.sub sub1) (toldS_ne _ _ _) (fun q => by rw [tok.ct i q]; walk_at "o") (Nat.le_trans (tok.cl i) (by walk_at "o")) b1 (tok.len i) b3 (tok.nx i hi) fun r h'' tk hro hMr rr => ⟨h'', tk, rfl, rr, r, rfl, hoa, hMr.sub fun b m => ?_⟩
    rw [fr_cons hf']
    rcases List.mem_append.mp m with m | m
    · exact List.mem_append_left _ m
    · exact List.mem_append_right _ (.tail _ m)
  · rintro av v h' tk ⟨a, rfl, _, hM⟩ r₃
    rw [fr_cons rfl] at r₃ hM
    have RR := R₁₅.trans r₃
    refine ⟨h', tk, _, _, _, rfl, br_of B₁ rfl RR, (W₁.ret0 RR).add (f := .ml a _) (hM.sub fun b m => List.mem_append_right _ m), fun h₆ t₆ B₆ W₆ R₆ => ?_⟩
    have n139 : 139 ∉ XC L := XC_not hL
    have n97 : 97 ∉ XC L := XC_not (Nat.lt_trans (by decide) hL)
    refine k h₆ t₆ a c' B₆ W₆ ?_ ?_ (((R₁.wide (by simp)).trans (RR.wide (by simp))).trans (R₆.wide (by simp)))
    · obtain ⟨ps, e⟩ := T97
      exact ⟨ps, R₆.keep _ _ (XC_sub n97 (by simp)) f97 (RR.keep _ _ (by simp) f97 (R₁.keep _ _ (by decide) f97 e))⟩
    · exact R₆.keep _ _ (XC_sub n139 (by simp)) f139 (RR.keep _ _ (by simp) f139 T139₁)
end
end Mine
end

section
set_option maxRecDepth 100000
set_option maxHeartbeats 4000000
namespace Mine
open PySem

noncomputable def keyN : List Int → (Int → Bool) → Nat
  | [], _ => 0
  | x :: r, p => (if p x then 2 ^ r.length else 0) + keyN r p
theorem keyN_lt : ∀ (l : List Int) (p : Int → Bool), keyN l p < 2 ^ l.length
  | [], _ => by simp [keyN]
  | x :: r, p => by
    have := keyN_lt r p
    simp only [keyN, List.length_cons, Nat.pow_succ]
    split <;> omega
theorem keyN_le : ∀ (l : List Int) (p q : Int → Bool), (∀ y ∈ l, p y = true → q y = true) → keyN l p ≤ keyN l q
  | [], _, _, _ => Nat.le_refl _
  | x :: r, p, q, h => by
    have ih := keyN_le r p q fun y m => h y (.tail _ m)
    simp only [keyN]
    cases hp : p x with
    | false => simp; omega
    | true => simp [h x (.head _) hp]; omega
theorem keyN_lex : ∀ (l : List Int) (p q : Int → Bool), keyN l p < keyN l q → Ex3 fun pre x post => l = pre ++ x :: post ∧ (∀ y ∈ pre, p y = q y) ∧ p x = false ∧ q x = true
  | [], _, _, h => by simp [keyN] at h
  | x :: r, p, q, h => by
    have hp := keyN_lt r p
    have hq := keyN_lt r q
    simp only [keyN] at h
    cases ep : p x with
    | false =>
      cases eq : q x with
      | true => exact ⟨[], x, r, rfl, by simp, ep, eq⟩
      | false =>
        rw [ep, eq] at h
        simp at h
        obtain ⟨pre, y, post, rfl, h1, h2, h3⟩ := keyN_lex r p q h
        exact ⟨x :: pre, y, post, rfl, by intro z hz; rcases List.mem_cons.mp hz with rfl | hz; rw [ep, eq]; exact h1 z hz, h2, h3⟩
    | true =>
      cases eq : q x with
      | false => rw [ep, eq] at h; simp at h; omega
      | true =>
        rw [ep, eq] at h
        simp at h
        obtain ⟨pre, y, post, rfl, h1, h2, h3⟩ := keyN_lex r p q h
        exact ⟨x :: pre, y, post, rfl, by intro z hz; rcases List.mem_cons.mp hz with rfl | hz; rw [ep, eq]; exact h1 z hz, h2, h3⟩
theorem keyN_of : ∀ (pre : List Int) (x : Int) (post : List Int) (p q : Int → Bool), (∀ y ∈ pre, p y = q y) → p x = false → q x = true → keyN (pre ++ x :: post) p < keyN (pre ++ x :: post) q
  | [], x, post, p, q, _, h2, h3 => by
    have := keyN_lt post p
    simp [keyN, h2, h3]; omega
  | y :: pre, x, post, p, q, h1, h2, h3 => by
    have ih := keyN_of pre x post p q (fun z hz => h1 z (.tail _ hz)) h2 h3
    simp only [List.cons_append, keyN, h1 y (.head _)]
    omega
theorem keyN_inj : ∀ (l : List Int) (p q : Int → Bool), keyN l p = keyN l q → ∀ x ∈ l, p x = q x
  | [], _, _, _ => by simp
  | x :: r, p, q, h => by
    have hp := keyN_lt r p
    have hq := keyN_lt r q
    simp only [keyN] at h
    have hx : p x = q x := by
      cases ep : p x <;> cases eq : q x <;> rw [ep, eq] at h <;> simp at h <;> first | rfl | omega
    have hr : keyN r p = keyN r q := by rw [hx] at h; omega
    intro z hz
    rcases List.mem_cons.mp hz with rfl | hz
    · exact hx
    · exact keyN_inj r p q hr z hz

noncomputable abbrev inB (S : List Int) (y : Int) : Bool := decide (y ∈ S)
noncomputable abbrev keyS (on S : List Int) : Nat := keyN on (inB S)
structure Cld (lks : List (List Int)) (on S : List Int) : Prop where
  sub : on.filter (inB S) = S
  cl : ∀ x ∈ on, (∀ k ∈ lks, (∀ y ∈ S, y ∉ k) → x ∉ k) → x ∈ S
theorem foldfilt_eq : ∀ (l : List (List Int)) (a : List Int), l.foldl filt a = a.filter fun x => decide (∀ k ∈ l, x ∉ k)
  | [], a => by
    rw [List.foldl_nil]
    exact (List.filter_eq_self.mpr fun x _ => by simp).symm
  | k :: l, a => by
    rw [List.foldl_cons, foldfilt_eq l]
    unfold filt
    rw [List.filter_filter]
    refine List.filter_congr fun x _ => ?_
    by_cases h : x ∈ k <;> simp [h]
section
variable {lks : List (List Int)} {on X B A : List Int}
theorem sub_of_filter {p : Int → Bool} {S : List Int} (h : S = on.filter p) : on.filter (inB S) = S := by
  subst h
  refine List.filter_congr fun x hx => ?_
  show decide (x ∈ on.filter p) = p x
  cases hp : p x with
  | true => exact decide_eq_true (List.mem_filter.mpr ⟨hx, hp⟩)
  | false => exact decide_eq_false fun q => by rw [(List.mem_filter.mp q).2] at hp; cases hp
theorem shared_sub : on.filter (inB (sharedL lks on X)) = sharedL lks on X := sub_of_filter (foldfilt_eq _ _)
theorem mem_shared' {x : Int} : x ∈ sharedL lks on X ↔ x ∈ on ∧ ∀ k ∈ lks, (∀ y ∈ X, y ∉ k) → x ∉ k := by
  rw [mem_shared]
  exact ⟨fun ⟨h1, h2⟩ => ⟨h1, fun k hk hX => h2 k hk (filt_eq_self.mpr hX)⟩, fun ⟨h1, h2⟩ => ⟨h1, fun k hk hX => h2 k hk (filt_eq_self.mp hX)⟩⟩
theorem shared_cld : Cld lks on (sharedL lks on X) where
  sub := shared_sub
  cl := fun x hx h => mem_shared'.mpr ⟨hx, fun k hk hX => h k hk fun y hy => (mem_shared'.mp hy).2 k hk hX⟩
theorem shared_ext {x : Int} (h : x ∈ X) (ho : x ∈ on) : x ∈ sharedL lks on X := mem_shared'.mpr ⟨ho, fun k _ hX => hX x h⟩
theorem shared_min (hB : Cld lks on B) (h : ∀ x ∈ X, x ∈ B) {x : Int} (hx : x ∈ sharedL lks on X) : x ∈ B := by
  obtain ⟨h1, h2⟩ := mem_shared'.mp hx
  exact hB.cl x h1 fun k hk hBk => h2 k hk fun y hy => hBk y (h y hy)

noncomputable def Fails (lks : List (List Int)) (on A q1 : List Int) (z : Int) : Prop := ∃ y ∈ q1, y ∉ A ∧ y ∈ sharedL lks on (q1.filter (inB A) ++ [z])

theorem nextL_spec (hnd : on.Nodup) : ∀ (ms post : List Int), on = ms.reverse ++ post →
    match nextL lks on ms (ms.reverse.filter (inB A)) with
    | none => ∀ q1 z q2, ms.reverse = q1 ++ z :: q2 → z ∉ A → Fails lks on A q1 z
    | some W => Ex3 fun p1 x p2 => ms.reverse = p1 ++ x :: p2 ∧ x ∉ A ∧ W = sharedL lks on (p1.filter (inB A) ++ [x]) ∧ ¬ Fails lks on A p1 x ∧ ∀ q1 z q2, ms.reverse = q1 ++ z :: q2 → z ∉ A → p1.length < q1.length → Fails lks on A q1 z
  | [], post, ho => by
    show ∀ q1 z q2, [] = q1 ++ z :: q2 → _
    intro q1 z q2 h; simp at h
  | m :: ms, post, ho => by
    have ho' : on = ms.reverse ++ (m :: post) := by rw [ho]; simp
    have ih := nextL_spec hnd ms (m :: post) ho'
    have hnd' := hnd
    rw [ho', List.nodup_append] at hnd'
    have hm : m ∉ ms.reverse := fun q => hnd'.2.2 m q m (.head _) rfl
    have hmo : m ∈ on := by rw [ho']; simp
    have dec : ∀ {q1 z q2}, (m :: ms).reverse = q1 ++ z :: q2 → (q1 = ms.reverse ∧ z = m) ∨ ∃ q3, ms.reverse = q1 ++ z :: q3 := by
      intro q1 z q2 h
      rw [List.reverse_cons] at h
      rcases List.eq_nil_or_concat q2 with rfl | ⟨q3, y, rfl⟩
      · have := List.append_inj' h rfl
        exact .inl ⟨this.1.symm, by simpa using this.2.symm⟩
      · have h : ms.reverse ++ [m] = (q1 ++ z :: q3) ++ [y] := by rw [h]; simp
        have := List.append_inj' h rfl
        exact .inr ⟨q3, this.1⟩
    have fil : (m :: ms).reverse.filter (inB A) = ms.reverse.filter (inB A) ++ if m ∈ A then [m] else [] := by
      rw [List.reverse_cons, List.filter_append]
      congr 1
      by_cases h : m ∈ A <;> simp [h, inB]
    rw [fil]
    by_cases hA : m ∈ A
    · rw [if_pos hA]
      have e1 : nextL lks on (m :: ms) (ms.reverse.filter (inB A) ++ [m]) = nextL lks on ms (ms.reverse.filter (inB A)) := by
        show (if m ∈ ms.reverse.filter (inB A) ++ [m] then _ else _) = _
        rw [if_pos (by simp)]
        congr 1
        unfold filt
        rw [List.filter_append]
        have h1 : List.filter (fun a => decide (a ∉ [m])) (ms.reverse.filter (inB A)) = ms.reverse.filter (inB A) := by
          refine List.filter_eq_self.mpr fun a ha => ?_
          have : a ∈ ms.reverse := (List.mem_filter.mp ha).1
          simp; rintro rfl; exact hm this
        rw [h1]; simp
      rw [e1]
      revert ih
      cases nextL lks on ms (ms.reverse.filter (inB A)) with
      | none =>
        intro ih q1 z q2 h hz
        rcases dec h with ⟨rfl, rfl⟩ | ⟨q3, h⟩
        · exact absurd hA hz
        · exact ih q1 z q3 h hz
      | some W =>
        rintro ⟨p1, x, p2, h1, h2, h3, h4, h5⟩
        refine ⟨p1, x, p2 ++ [m], by rw [List.reverse_cons, h1]; simp, h2, h3, h4, fun q1 z q2 h hz hl => ?_⟩
        rcases dec h with ⟨rfl, rfl⟩ | ⟨q3, h⟩
        · exact absurd hA hz
        · exact h5 q1 z q3 h hz hl
    · rw [if_neg hA, List.append_nil]
      have hmh : m ∉ ms.reverse.filter (inB A) := fun q => hm (List.mem_filter.mp q).1
      have hmw : m ∈ sharedL lks on (ms.reverse.filter (inB A) ++ [m]) := shared_ext (by simp) hmo
      have key : (m ∈ filt (sharedL lks on (ms.reverse.filter (inB A) ++ [m])) (ms.reverse.filter (inB A)) ∧ (filt (sharedL lks on (ms.reverse.filter (inB A) ++ [m])) (ms.reverse.filter (inB A)))[0]? = some m) ↔ ¬ Fails lks on A ms.reverse m := by
        have hf : filt (sharedL lks on (ms.reverse.filter (inB A) ++ [m])) (ms.reverse.filter (inB A)) = (ms.reverse.filter fun y => decide (y ∈ sharedL lks on (ms.reverse.filter (inB A) ++ [m]) ∧ y ∉ ms.reverse.filter (inB A))) ++ ((m :: post).filter fun y => decide (y ∈ sharedL lks on (ms.reverse.filter (inB A) ++ [m]) ∧ y ∉ ms.reverse.filter (inB A))) := by
          rw [← List.filter_append, ← ho']
          unfold filt
          conv => lhs; rw [← shared_sub (lks := lks) (on := on) (X := ms.reverse.filter (inB A) ++ [m])]
          rw [List.filter_filter]
          refine List.filter_congr fun x _ => ?_
          rw [Bool.and_comm, Bool.decide_and]
        have hc : (m :: post).filter (fun y => decide (y ∈ sharedL lks on (ms.reverse.filter (inB A) ++ [m]) ∧ y ∉ ms.reverse.filter (inB A))) = m :: post.filter (fun y => decide (y ∈ sharedL lks on (ms.reverse.filter (inB A) ++ [m]) ∧ y ∉ ms.reverse.filter (inB A))) := by
          rw [List.filter_cons, if_pos (by simp only [decide_eq_true_eq]; exact ⟨hmw, hmh⟩)]
        constructor
        · rintro ⟨_, h0⟩ ⟨y, hy, hyA, hyw⟩
          rw [hf, hc] at h0
          have hyf : y ∈ ms.reverse.filter fun y => decide (y ∈ sharedL lks on (ms.reverse.filter (inB A) ++ [m]) ∧ y ∉ ms.reverse.filter (inB A)) := by
            rw [List.mem_filter]
            refine ⟨hy, ?_⟩
            simp only [decide_eq_true_eq]
            exact ⟨hyw, fun q => hyA (by simpa [inB] using (List.mem_filter.mp q).2)⟩
          cases hz : (ms.reverse.filter fun y => decide (y ∈ sharedL lks on (ms.reverse.filter (inB A) ++ [m]) ∧ y ∉ ms.reverse.filter (inB A))) with
          | nil => rw [hz] at hyf; simp at hyf
          | cons a r =>
            rw [hz] at h0
            simp at h0
            have : a ∈ ms.reverse.filter fun y => decide (y ∈ sharedL lks on (ms.reverse.filter (inB A) ++ [m]) ∧ y ∉ ms.reverse.filter (inB A)) := by rw [hz]; simp
            exact hm (h0 ▸ (List.mem_filter.mp this).1)
        · intro hF
          have hnil : (ms.reverse.filter fun y => decide (y ∈ sharedL lks on (ms.reverse.filter (inB A) ++ [m]) ∧ y ∉ ms.reverse.filter (inB A))) = [] := by
            rw [List.filter_eq_nil_iff]
            intro y hy q
            simp only [decide_eq_true_eq] at q
            refine hF ⟨y, hy, fun hyA => q.2 (List.mem_filter.mpr ⟨hy, by simpa [inB] using hyA⟩), q.1⟩
          rw [hf, hc, hnil]
          simp
      show match (if m ∈ ms.reverse.filter (inB A) then _ else if _ then _ else _ : Option (List Int)) with | none => _ | some W => _
      rw [if_neg hmh]
      by_cases hF : Fails lks on A ms.reverse m
      · rw [if_neg (fun q => key.mp q hF)]
        revert ih
        cases nextL lks on ms (ms.reverse.filter (inB A)) with
        | none =>
          intro ih q1 z q2 h hz
          rcases dec h with ⟨rfl, rfl⟩ | ⟨q3, h⟩
          · exact hF
          · exact ih q1 z q3 h hz
        | some W =>
          rintro ⟨p1, x, p2, h1, h2, h3, h4, h5⟩
          refine ⟨p1, x, p2 ++ [m], by rw [List.reverse_cons, h1]; simp, h2, h3, h4, fun q1 z q2 h hz hl => ?_⟩
          rcases dec h with ⟨rfl, rfl⟩ | ⟨q3, h⟩
          · exact hF
          · exact h5 q1 z q3 h hz hl
      · rw [if_pos (key.mpr hF)]
        refine ⟨ms.reverse, m, [], by simp, hA, rfl, hF, fun q1 z q2 h hz hl => ?_⟩
        have := congrArg List.length h
        simp at this hl
        omega
end
end Mine
end

section
set_option maxRecDepth 100000
set_option maxHeartbeats 4000000
namespace Mine
open PySem

section
variable {lks : List (List Int)} {on : List Int}
theorem next_min (hnd : on.Nodup) {A B : List Int} (hA : on.filter (inB A) = A) (hB : Cld lks on B) (hlt : keyS on A < keyS on B) :
    ∃ W, nextL lks on on.reverse A = some W ∧ Cld lks on W ∧ keyS on A < keyS on W ∧ keyS on W ≤ keyS on B := by
  obtain ⟨pre, x, post, ho, h1, h2, h3⟩ := keyN_lex on (inB A) (inB B) hlt
  have hxA : x ∉ A := of_decide_eq_false h2
  have hxB : x ∈ B := of_decide_eq_true h3
  have hag : ∀ y ∈ pre, (y ∈ A ↔ y ∈ B) := fun y hy => decide_eq_decide.mp (h1 y hy)
  have hpreB : ∀ z ∈ pre.filter (inB A) ++ [x], z ∈ B := by
    intro z hz
    rcases List.mem_append.mp hz with hz | hz
    · obtain ⟨z1, z2⟩ := List.mem_filter.mp hz
      exact (hag z z1).mp (of_decide_eq_true z2)
    · rw [List.mem_singleton.mp hz]; exact hxB
  have hnf : ¬ Fails lks on A pre x := by
    rintro ⟨y, hy, hyA, hyw⟩
    exact hyA ((hag y hy).mpr (shared_min hB hpreB hyw))
  have spec := nextL_spec (lks := lks) (A := A) hnd on.reverse [] (by simp)
  rw [List.reverse_reverse, hA] at spec
  revert spec
  cases hN : nextL lks on on.reverse A with
  | none => intro spec; exact absurd (spec pre x post ho hxA) hnf
  | some W =>
    rintro ⟨p1, x', p2, g1, g2, g3, g4, g5⟩
    have hx'o : x' ∈ on := by rw [g1]; simp
    have hp1o : ∀ y ∈ p1, y ∈ on := fun y hy => by rw [g1]; simp [hy]
    have agW : ∀ y ∈ p1, inB A y = inB W y := fun y hy => by
      refine decide_eq_decide.mpr ⟨fun hyA => ?_, fun hyW => ?_⟩
      · rw [g3]; exact shared_ext (by simp [hy, hyA, inB]) (hp1o y hy)
      · exact Classical.byContradiction fun hyA => g4 ⟨y, hy, hyA, g3 ▸ hyW⟩
    have hx'W : x' ∈ W := by rw [g3]; exact shared_ext (by simp) hx'o
    refine ⟨W, rfl, by rw [g3]; exact shared_cld, ?_, ?_⟩
    · have := keyN_of p1 x' p2 (inB A) (inB W) agW (decide_eq_false g2) (decide_eq_true hx'W)
      rw [← g1] at this; exact this
    · have hgo : ∀ {q r : List Int} {y : Int}, on = q ++ y :: r → True := fun _ => trivial
      by_cases hl : pre.length < p1.length
      · have e := ho.symm.trans g1
        rcases List.append_eq_append_iff.mp e with ⟨a', ha, hb⟩ | ⟨c', hc, _⟩
        · cases a' with
          | nil => rw [ha] at hl; simp at hl
          | cons y r =>
            have hxy : x = y := by simp at hb; exact hb.1
            subst hxy
            have hxp : x ∈ p1 := by rw [ha]; simp
            have hxW : x ∉ W := fun q => hxA (decide_eq_decide.mp (agW x hxp) |>.mpr q)
            have := keyN_of pre x post (inB W) (inB B) (fun y hy => (agW y (by rw [ha]; simp [hy])).symm.trans (h1 y hy)) (decide_eq_false hxW) h3
            rw [← ho] at this; exact Nat.le_of_lt this
        · rw [hc] at hl; simp at hl; omega
      · by_cases hl2 : p1.length < pre.length
        · exact absurd (g5 pre x post ho hxA hl2) hnf
        · have hle : p1.length = pre.length := by walk_at "o"
          have e := g1.symm.trans ho
          obtain ⟨e1, e2⟩ := List.append_inj e hle
          subst e1
          injection e2 with e3 e4
          subst e3
          refine keyN_le on _ _ fun y _ hy => decide_eq_true ?_
          have hyW : y ∈ W := of_decide_eq_true hy
          rw [g3] at hyW
          exact shared_min hB hpreB hyW

theorem cld_on : Cld lks on on := ⟨List.filter_eq_self.mpr fun x hx => decide_eq_true hx, fun _ hx _ => hx⟩
theorem key_le_on (B : List Int) : keyS on B ≤ keyS on on := keyN_le on _ _ fun _ hy _ => decide_eq_true hy
theorem cld_inj {A B : List Int} (hA : Cld lks on A) (hB : Cld lks on B) (e : keyS on A = keyS on B) : A = B := by
  rw [← hA.sub, ← hB.sub]
  exact List.filter_congr (keyN_inj on _ _ e)

theorem lastS_snoc (T : List (List Int)) (W : List Int) : lastS (T ++ [W]) = W := by
  unfold lastS; simp
theorem lastS_mem {T : List (List Int)} (h : T ≠ []) : lastS T ∈ T := by
  have hl : 0 < T.length := List.length_pos_iff.mpr h
  unfold lastS
  rw [List.getD_eq_getElem?_getD, List.getElem?_eq_getElem (by walk_at "o")]
  exact List.getElem_mem _
structure Chain (lks : List (List Int)) (on : List Int) (T : List (List Int)) : Prop where
  ne : T ≠ []
  srt : T.Pairwise fun a b => keyS on a < keyS on b
  cld : ∀ S ∈ T, Cld lks on S
  low : ∀ B, Cld lks on B → keyS on B ≤ keyS on (lastS T) → B ∈ T
  top : ∀ S ∈ T, keyS on S ≤ keyS on (lastS T)
theorem chain_step (hnd : on.Nodup) {T : List (List Int)} (c : Chain lks on T) : Chain lks on (stepS lks on T) ∧ (lastS T ≠ on → ∃ wd, nextL lks on on.reverse (lastS T) = some wd ∧ stepS lks on T = T ++ [wd]) := by
  by_cases h : lastS T = on
  · have e : stepS lks on T = T := by unfold stepS; rw [if_pos h]
    rw [e]; exact ⟨c, fun q => absurd h q⟩
  · have hcl := c.cld _ (lastS_mem c.ne)
    have hlt : keyS on (lastS T) < keyS on on := Nat.lt_of_le_of_ne (key_le_on _) fun e => h (cld_inj hcl (cld_on (lks := lks)) e)
    obtain ⟨W, hW, hWc, hW1, _⟩ := next_min hnd hcl.sub (cld_on (lks := lks)) hlt
    have e : stepS lks on T = T ++ [W] := by unfold stepS; rw [if_neg h, hW]
    rw [e]
    refine ⟨⟨by simp, ?_, ?_, ?_, ?_⟩, fun _ => ⟨W, hW, rfl⟩⟩
    · rw [List.pairwise_append]
      refine ⟨c.srt, List.pairwise_singleton _ _, fun a ha b hb => ?_⟩
      rw [List.mem_singleton.mp hb]
      exact Nat.lt_of_le_of_lt (c.top a ha) hW1
    · intro S hS
      rcases List.mem_append.mp hS with hS | hS
      · exact c.cld S hS
      · rw [List.mem_singleton.mp hS]; exact hWc
    · intro B hB hle
      rw [lastS_snoc] at hle
      by_cases hq : keyS on B ≤ keyS on (lastS T)
      · exact List.mem_append_left _ (c.low B hB hq)
      · obtain ⟨W', hW', _, _, hW2⟩ := next_min hnd hcl.sub hB (Nat.lt_of_not_le hq)
        rw [hW] at hW'
        injection hW' with hW'
        subst hW'
        have := cld_inj hB hWc (Nat.le_antisymm hle hW2)
        rw [this]; simp
    · intro S hS
      rw [lastS_snoc]
      rcases List.mem_append.mp hS with hS | hS
      · exact Nat.le_of_lt (Nat.lt_of_le_of_lt (c.top S hS) hW1)
      · rw [List.mem_singleton.mp hS]; exact Nat.le_refl _
theorem toldS_chain (hnd : on.Nodup) : ∀ i, Chain lks on (toldS lks on i) ∧ (lastS (toldS lks on i) = on ∨ (toldS lks on i).length = i + 1)
  | 0 => by
    refine ⟨⟨by simp [toldS], by simp [toldS], fun S hS => ?_, fun B hB hle => ?_, fun S hS => ?_⟩, .inr (by simp [toldS])⟩
    · simp only [toldS, List.mem_singleton] at hS; subst hS; exact shared_cld
    · have e : lastS (toldS lks on 0) = sharedL lks on [] := rfl
      rw [e] at hle
      have h2 : keyS on (sharedL lks on []) ≤ keyS on B := keyN_le on _ _ fun y _ hy => decide_eq_true (shared_min hB (by simp) (of_decide_eq_true hy))
      rw [cld_inj hB shared_cld (Nat.le_antisymm hle h2)]
      simp [toldS]
    · simp only [toldS, List.mem_singleton] at hS; subst hS; exact Nat.le_refl _
  | i + 1 => by
    obtain ⟨c, hl⟩ := toldS_chain hnd i
    obtain ⟨c', hn⟩ := chain_step hnd c
    refine ⟨c', ?_⟩
    show lastS (stepS lks on (toldS lks on i)) = on ∨ (stepS lks on (toldS lks on i)).length = _
    by_cases h : lastS (toldS lks on i) = on
    · left; unfold stepS; rw [if_pos h]; exact h
    · obtain ⟨wd, _, e⟩ := hn h
      right
      rw [e, List.length_append]
      rcases hl with hl | hl
      · exact absurd hl h
      · rw [hl]; rfl
theorem sorted_le {f : List Int → Nat} : ∀ {l₂ l₁ : List (List Int)}, l₁.Pairwise (fun a b => f a < f b) → l₂.Pairwise (fun a b => f a < f b) → (∀ x ∈ l₁, x ∈ l₂) → l₁.length ≤ l₂.length
  | _, [], _, _, _ => Nat.zero_le _
  | [], a :: r, _, _, h => absurd (h a (.head _)) List.not_mem_nil
  | b :: s, a :: r, h1, h2, h => by
    obtain ⟨p1, p2⟩ := List.pairwise_cons.mp h1
    obtain ⟨q1, q2⟩ := List.pairwise_cons.mp h2
    rcases List.mem_cons.mp (h a (.head _)) with rfl | ha
    · have := sorted_le p2 q2 fun x hx => by
        rcases List.mem_cons.mp (h x (.tail _ hx)) with rfl | hs
        · exact absurd (p1 _ hx) (Nat.lt_irrefl _)
        · exact hs
      simpa using this
    · have hba := q1 a ha
      have := sorted_le h1 q2 fun x hx => by
        rcases List.mem_cons.mp (h x hx) with rfl | hs
        · rcases List.mem_cons.mp hx with rfl | hx
          · exact ha
          · exact absurd (p1 _ hx) (Nat.not_lt.mpr (Nat.le_of_lt hba))
        · exact hs
      simp at this ⊢; omega
theorem sorted_eq {f : List Int → Nat} : ∀ {l₁ l₂ : List (List Int)}, l₁.Pairwise (fun a b => f a < f b) → l₂.Pairwise (fun a b => f a < f b) → (∀ x, x ∈ l₁ ↔ x ∈ l₂) → l₁ = l₂
  | [], [], _, _, _ => rfl
  | [], b :: s, _, _, h => absurd ((h b).mpr (.head _)) List.not_mem_nil
  | a :: r, [], _, _, h => absurd ((h a).mp (.head _)) List.not_mem_nil
  | a :: r, b :: s, h1, h2, h => by
    obtain ⟨p1, p2⟩ := List.pairwise_cons.mp h1
    obtain ⟨q1, q2⟩ := List.pairwise_cons.mp h2
    have hab : a = b := by
      rcases List.mem_cons.mp ((h a).mp (.head _)) with e | ha
      · exact e
      · rcases List.mem_cons.mp ((h b).mpr (.head _)) with e | hb
        · exact e.symm
        · exact absurd (p1 b hb) (Nat.not_lt.mpr (Nat.le_of_lt (q1 a ha)))
    subst hab
    rw [sorted_eq p2 q2 fun x => ⟨fun hx => ?_, fun hx => ?_⟩]
    · rcases List.mem_cons.mp ((h x).mp (.tail _ hx)) with rfl | q
      · exact absurd (p1 _ hx) (Nat.lt_irrefl _)
      · exact q
    · rcases List.mem_cons.mp ((h x).mpr (.tail _ hx)) with rfl | q
      · exact absurd (q1 _ hx) (Nat.lt_irrefl _)
      · exact q
/-- the telling tells all the closed sets -/
theorem told_all (hnd : on.Nodup) {M : List (List Int)} (hM : ∀ B, Cld lks on B ↔ B ∈ M) (hs : M.Pairwise fun a b => keyS on a < keyS on b) (hl : M.length ≤ 16) : toldS lks on 16 = M := by
  obtain ⟨c, h⟩ := toldS_chain (lks := lks) hnd 16
  have hlen : (toldS lks on 16).length ≤ 16 := Nat.le_trans (sorted_le c.srt hs fun x hx => (hM x).mp (c.cld x hx)) hl
  have hlast : lastS (toldS lks on 16) = on := by
    rcases h with h | h
    · exact h
    · omega
  refine sorted_eq c.srt hs fun x => ⟨fun hx => (hM x).mp (c.cld x hx), fun hx => ?_⟩
  have hx := (hM x).mpr hx
  refine c.low x hx ?_
  rw [hlast]; exact key_le_on x
theorem told_ok (hnd : on.Nodup) (hl : on.length ≤ 900) : ToldOk lks on where
  len := fun i => by
    obtain ⟨c, _⟩ := toldS_chain (lks := lks) hnd i
    rw [← (c.cld _ (lastS_mem c.ne)).sub]
    exact Nat.le_trans (List.length_filter_le _ _) hl
  ct := fun i h => by
    obtain ⟨_, hl⟩ := toldS_chain (lks := lks) hnd i
    rcases hl with hl | hl
    · exact absurd hl h
    · exact hl
  cl := toldS_len lks on
  nx := fun i _ h => by
    obtain ⟨c, _⟩ := toldS_chain (lks := lks) hnd i
    obtain ⟨wd, e, _⟩ := (chain_step hnd c).2 h
    exact ⟨wd, e⟩
end
end Mine
end

section
set_option maxRecDepth 100000
set_option maxHeartbeats 4000000
namespace Mine
open PySem

noncomputable def bitM (m x : Int) : Bool := decide ((m.fdiv (2 ^ x.toNat)).fmod 2 = 1)
theorem bitM_nat (n x : Nat) : bitM ((n : Nat) : Int) ((x : Nat) : Int) = n.testBit x := by
  unfold bitM
  rw [Nat.testBit_eq_decide_div_mod_eq, Int.toNat_natCast, show ((2 : Int) ^ x) = ((2 ^ x : Nat) : Int) from (Int.natCast_pow 2 x).symm, Int.fdiv_eq_ediv_of_nonneg _ (Int.natCast_nonneg _), Int.fmod_eq_emod_of_nonneg _ (by decide)]
  exact decide_eq_decide.mpr ⟨fun h => Int.ofNat.inj h, fun h => congrArg Int.ofNat h⟩
noncomputable abbrev In64 (a : Int) : Prop := 0 ≤ a ∧ a < 64
theorem In64.nat {a : Int} (h : In64 a) : ∃ n : Nat, n < 2 ^ 6 ∧ a = ((n : Nat) : Int) := ⟨a.toNat, by have := h.2; walk_at "o", (Int.toNat_of_nonneg h.1).symm⟩
theorem bit_and {a b : Int} (ha : In64 a) (hb : In64 b) : In64 (Builtin.bitAnd a (63 - b)) ∧ ∀ x, 0 ≤ x → x < 6 → bitM (Builtin.bitAnd a (63 - b)) x = (bitM a x && !bitM b x) := by
  obtain ⟨n, hn, rfl⟩ := ha.nat
  obtain ⟨m, hm, rfl⟩ := hb.nat
  have e : Builtin.bitAnd ((n : Nat) : Int) (63 - ((m : Nat) : Int)) = ((n &&& (2 ^ 6 - (m + 1)) : Nat) : Int) := by
    rw [show (63 : Int) - ((m : Nat) : Int) = ((2 ^ 6 - (m + 1) : Nat) : Int) by walk_at "o"]
    unfold Builtin.bitAnd
    rw [decide_eq_true (Int.natCast_nonneg _), decide_eq_true (Int.natCast_nonneg _)]
    rfl
  rw [e]
  refine ⟨⟨Int.natCast_nonneg _, Int.ofNat_lt.mpr (Nat.and_lt_two_pow (n := 6) _ (Nat.sub_lt_of_pos_le (Nat.succ_pos _) hm))⟩, fun x x0 x1 => ?_⟩
  obtain ⟨k, rfl⟩ := Int.eq_ofNat_of_zero_le x0
  rw [bitM_nat, bitM_nat, bitM_nat, Nat.testBit_and, Nat.testBit_two_pow_sub_succ hm, decide_eq_true (Int.ofNat_lt.mp x1), Bool.true_and]
theorem bit_63' {x : Int} (x0 : 0 ≤ x) (x1 : x < 6) : bitM 63 x = true := by
  obtain ⟨k, rfl⟩ := Int.eq_ofNat_of_zero_le x0
  exact (bitM_nat 63 k).trans ((Nat.testBit_two_pow_sub_one 6 k).trans (decide_eq_true (Int.ofNat_lt.mp x1)))
theorem bit_inj' {a b : Int} (ha : In64 a) (hb : In64 b) (h : ∀ x, 0 ≤ x → x < 6 → bitM a x = bitM b x) : a = b := by
  obtain ⟨n, hn, rfl⟩ := ha.nat
  obtain ⟨m, hm, rfl⟩ := hb.nat
  refine congrArg _ (Nat.eq_of_testBit_eq fun k => ?_)
  by_cases q : k < 6
  · have := h k (Int.natCast_nonneg _) (Int.ofNat_lt.mpr q)
    rwa [bitM_nat, bitM_nat] at this
  · have q' : 2 ^ 6 ≤ 2 ^ k := Nat.pow_le_pow_right (by decide) (Nat.le_of_not_lt q)
    rw [Nat.testBit_lt_two_pow (Nat.lt_of_lt_of_le hn q'), Nat.testBit_lt_two_pow (Nat.lt_of_lt_of_le hm q')]

theorem mem_meetAdd {acc : List Int} {x y : Int} : y ∈ meetAdd acc x ↔ y ∈ acc ∨ y = x := by
  unfold meetAdd
  split
  · rename_i h
    exact ⟨.inl, fun q => by rcases q with q | rfl; exact q; exact h⟩
  · simp
theorem mem_meetInner (v : Int) : ∀ (ms acc : List Int) (y : Int), y ∈ meetInner v ms acc ↔ y ∈ acc ∨ ∃ m ∈ ms, y = Builtin.bitAnd m (63 - v)
  | [], acc, y => by simp [meetInner]
  | m :: ms, acc, y => by
    have ih := mem_meetInner v ms (meetAdd acc (Builtin.bitAnd m (63 - v))) y
    unfold meetInner at ih ⊢
    rw [List.foldl_cons, ih, mem_meetAdd]
    simp [or_assoc]
theorem nodup_meetAdd {acc : List Int} {x : Int} (h : acc.Nodup) : (meetAdd acc x).Nodup := by
  unfold meetAdd
  split
  · exact h
  · rename_i hx
    rw [List.nodup_append]
    exact ⟨h, by simp, fun a ha b hb => by rw [List.mem_singleton.mp hb]; rintro rfl; exact hx ha⟩
theorem nodup_meetInner (v : Int) : ∀ (ms acc : List Int), acc.Nodup → (meetInner v ms acc).Nodup
  | [], acc, h => h
  | m :: ms, acc, h => by
    have ih := nodup_meetInner v ms (meetAdd acc (Builtin.bitAnd m (63 - v))) (nodup_meetAdd h)
    unfold meetInner at ih ⊢
    rw [List.foldl_cons]; exact ih
theorem nodup_meets : ∀ (vals acc : List Int), acc.Nodup → (vals.foldl (fun ms v => meetInner v ms ms) acc).Nodup
  | [], acc, h => h
  | v :: vals, acc, h => by rw [List.foldl_cons]; exact nodup_meets vals _ (nodup_meetInner v acc acc h)

theorem meets_a : ∀ (vals acc : List Int), (∀ v ∈ vals, In64 v) → (∀ a ∈ acc, In64 a) → ∀ m ∈ vals.foldl (fun ms v => meetInner v ms ms) acc,
    In64 m ∧ ∃ a ∈ acc, ∃ V : List Int, (∀ v ∈ V, v ∈ vals) ∧ ∀ x, 0 ≤ x → x < 6 → bitM m x = (bitM a x && V.all fun v => !bitM v x)
  | [], acc, _, ha, m, hm => ⟨ha m hm, m, hm, [], by simp, by simp⟩
  | v :: vals, acc, hv, ha, m, hm => by
    rw [List.foldl_cons] at hm
    have hv0 := hv v (.head _)
    obtain ⟨h1, a, haa, V, hV, hb⟩ := meets_a vals (meetInner v acc acc) (fun u hu => hv u (.tail _ hu)) (fun a q => by
      rcases (mem_meetInner v acc acc a).mp q with q | ⟨m', hm', rfl⟩
      · exact ha a q
      · exact (bit_and (ha m' hm') hv0).1) m hm
    refine ⟨h1, ?_⟩
    rcases (mem_meetInner v acc acc a).mp haa with q | ⟨m', hm', rfl⟩
    · exact ⟨a, q, V, fun u hu => .tail _ (hV u hu), hb⟩
    · refine ⟨m', hm', v :: V, fun u hu => ?_, fun x x0 x1 => ?_⟩
      · rcases List.mem_cons.mp hu with rfl | hu
        · exact .head _
        · exact .tail _ (hV u hu)
      · rw [hb x x0 x1, (bit_and (ha m' hm') hv0).2 x x0 x1, List.all_cons, Bool.and_assoc]
theorem meets_b (p : Int → Bool) : ∀ (vals acc : List Int), (∀ v ∈ vals, In64 v) → (∀ a ∈ acc, In64 a) → ∀ a ∈ acc, ∃ m ∈ vals.foldl (fun ms v => meetInner v ms ms) acc, ∀ x, 0 ≤ x → x < 6 → bitM m x = (bitM a x && (vals.filter p).all fun v => !bitM v x)
  | [], acc, _, _, a, h => ⟨a, h, by simp⟩
  | v :: vals, acc, hv, ha, a, h => by
    have hv0 := hv v (.head _)
    have hacc : ∀ a ∈ meetInner v acc acc, In64 a := fun a q => by
      rcases (mem_meetInner v acc acc a).mp q with q | ⟨m', hm', rfl⟩
      · exact ha a q
      · exact (bit_and (ha m' hm') hv0).1
    rw [List.foldl_cons]
    cases hp : p v with
    | false =>
      obtain ⟨m, hm, hb⟩ := meets_b p vals (meetInner v acc acc) (fun u hu => hv u (.tail _ hu)) hacc a ((mem_meetInner v acc acc a).mpr (.inl h))
      exact ⟨m, hm, fun x x0 x1 => by rw [hb x x0 x1, List.filter_cons, hp]; rfl⟩
    | true =>
      obtain ⟨m, hm, hb⟩ := meets_b p vals (meetInner v acc acc) (fun u hu => hv u (.tail _ hu)) hacc _ ((mem_meetInner v acc acc _).mpr (.inr ⟨a, h, rfl⟩))
      exact ⟨m, hm, fun x x0 x1 => by rw [hb x x0 x1, (bit_and (ha a h) hv0).2 x x0 x1, List.filter_cons, hp, if_pos rfl, List.all_cons, Bool.and_assoc]⟩

section
variable {vals row : List Int}
theorem mem_maskSet {m x : Int} : x ∈ row.filter (bitM m) ↔ x ∈ row ∧ bitM m x = true := List.mem_filter
theorem cld_meets (hv : ∀ v ∈ vals, In64 v) (hr : ∀ x ∈ row, 0 ≤ x ∧ x < 6) (B : List Int) :
    Cld (vals.map fun v => row.filter (bitM v)) row B ↔ ∃ m ∈ meetsL vals, B = row.filter (bitM m) := by
  have h63 : ∀ a ∈ ([63] : List Int), In64 a := by intro a ha; rw [List.mem_singleton.mp ha]; exact ⟨by decide, by decide⟩
  constructor
  · intro hB
    obtain ⟨m, hm, hb⟩ := meets_b (fun v => decide (∀ y ∈ B, y ∉ row.filter (bitM v))) vals [63] hv h63 63 (by simp)
    refine ⟨m, hm, ?_⟩
    rw [← hB.sub]
    refine List.filter_congr fun x hx => ?_
    obtain ⟨x0, x1⟩ := hr x hx
    rw [hb x x0 x1, bit_63' x0 x1, Bool.true_and]
    by_cases hxB : x ∈ B
    · rw [inB, decide_eq_true hxB]
      symm
      rw [List.all_eq_true]
      intro v hvm
      have hd := of_decide_eq_true (List.mem_filter.mp hvm).2
      have := hd x hxB
      cases hbx : bitM v x with
      | false => rfl
      | true => exact absurd (mem_maskSet.mpr ⟨hx, hbx⟩) this
    · rw [inB, decide_eq_false hxB]
      symm
      cases hall : (List.filter (fun v => decide (∀ y ∈ B, y ∉ row.filter (bitM v))) vals).all fun v => !bitM v x with
      | false => rfl
      | true =>
        rw [List.all_eq_true] at hall
        refine absurd (hB.cl x hx fun k hk hkB hxk => ?_) hxB
        obtain ⟨v, hvv, rfl⟩ := List.mem_map.mp hk
        have := hall v (List.mem_filter.mpr ⟨hvv, decide_eq_true hkB⟩)
        rw [(mem_maskSet.mp hxk).2] at this
        cases this
  · rintro ⟨m, hm, rfl⟩
    obtain ⟨h1, a, ha, V, hV, hb⟩ := meets_a vals [63] hv h63 m hm
    rw [List.mem_singleton.mp ha] at hb
    refine ⟨sub_of_filter rfl, fun x hx h => mem_maskSet.mpr ⟨hx, ?_⟩⟩
    obtain ⟨x0, x1⟩ := hr x hx
    rw [hb x x0 x1, bit_63' x0 x1, Bool.true_and, List.all_eq_true]
    intro v hvV
    have := h _ (List.mem_map_of_mem (f := fun v => row.filter (bitM v)) (hV v hvV)) fun y hy hyv => by
      obtain ⟨hyr, hym⟩ := mem_maskSet.mp hy
      obtain ⟨y0, y1⟩ := hr y hyr
      rw [hb y y0 y1, bit_63' y0 y1, Bool.true_and, List.all_eq_true] at hym
      have := hym v hvV
      rw [(mem_maskSet.mp hyv).2] at this
      cases this
    cases hbx : bitM v x with
    | false => rfl
    | true => exact absurd (mem_maskSet.mpr ⟨hx, hbx⟩) this
/-- the telling is the meets in their order -/
theorem told_meets (hv : ∀ v ∈ vals, In64 v) (hvl : vals.length ≤ 4) (hnd : row.Nodup) (hr : ∀ x ∈ row, 0 ≤ x ∧ x < 6) (hall : ∀ x, 0 ≤ x → x < 6 → x ∈ row) {kz : Int → Int} (hk : ∀ m, In64 m → kz m = ((keyN row (bitM m) : Nat) : Int))
    {out : List Int} (hp : out.Perm (meetsL vals)) (hs : out.Pairwise fun a b => kz a ≤ kz b) :
    toldS (vals.map fun v => row.filter (bitM v)) row 16 = out.map fun m => row.filter (bitM m) := by
  have h63 : ∀ a ∈ ([63] : List Int), In64 a := by intro a ha; rw [List.mem_singleton.mp ha]; exact ⟨by decide, by decide⟩
  have hin : ∀ m ∈ out, In64 m := fun m hm => (meets_a vals [63] hv h63 m (hp.mem_iff.mp hm)).1
  have hond : out.Nodup := hp.nodup_iff.mpr (nodup_meets vals [63] (by simp))
  have hkey : ∀ m, keyS row (row.filter (bitM m)) = keyN row (bitM m) := fun m => by
    have : ∀ (l : List Int) (p q : Int → Bool), (∀ x ∈ l, p x = q x) → keyN l p = keyN l q := by
      intro l
      induction l with
      | nil => intros; rfl
      | cons x r ih => intro p q h; simp only [keyN]; rw [h x (.head _), ih p q fun y hy => h y (.tail _ hy)]
    refine this _ _ _ fun x hx => ?_
    show decide (x ∈ row.filter (bitM m)) = _
    cases hb : bitM m x with
    | true => exact decide_eq_true (mem_maskSet.mpr ⟨hx, hb⟩)
    | false => exact decide_eq_false fun q => by rw [(mem_maskSet.mp q).2] at hb; cases hb
  have hlt : out.Pairwise fun a b => keyN row (bitM a) < keyN row (bitM b) := by
    refine (hs.and hond).imp_of_mem fun {a b} ha hb h => ?_
    obtain ⟨h1, h2⟩ := h
    rw [hk a (hin a ha), hk b (hin b hb)] at h1
    have h1 : keyN row (bitM a) ≤ keyN row (bitM b) := by exact_mod_cast h1
    refine Nat.lt_of_le_of_ne h1 fun e => h2 ?_
    exact bit_inj' (hin a ha) (hin b hb) fun x x0 x1 => keyN_inj row _ _ e x (hall x x0 x1)
  refine told_all hnd (fun B => ?_) ?_ ?_
  · rw [cld_meets hv hr, List.mem_map]
    exact ⟨fun ⟨m, hm, e⟩ => ⟨m, hp.mem_iff.mpr hm, e.symm⟩, fun ⟨m, hm, e⟩ => ⟨m, hp.mem_iff.mp hm, e.symm⟩⟩
  · rw [List.pairwise_map]
    exact hlt.imp fun {a b} h => by rw [hkey, hkey]; exact h
  · rw [List.length_map, hp.length_eq]
    refine Nat.le_trans (meetsL_len vals [63]) ?_
    have : 2 ^ vals.length ≤ 2 ^ 4 := Nat.pow_le_pow_right (by decide) hvl
    simpa using this
end
end Mine
end

section
set_option maxRecDepth 100000
set_option maxHeartbeats 4000000
namespace Mine
open PySem PySem.W

noncomputable def ins (i : Nat) (d : Nat) (l : List Int) : List Int := l.take d ++ [(i : Int)] ++ l.drop d
noncomputable def rowD (d1 d2 d3 d4 d5 : Nat) : List Int := ins 5 d5 (ins 4 d4 (ins 3 d3 (ins 2 d2 (ins 1 d1 [0]))))
noncomputable def chkRow (row : List Int) : Bool :=
  row.isPerm (rangeL 6) && kok (fun i j => decide (3 * (gvR row i - gvR row j) < 0)) 6 (kas_sort 6) && decide ((kev (fun i j => decide (3 * (gvR row i - gvR row j) < 0)) (kas_sort 6)).toList.map (fun i => ((i : Nat) : Int)) = row) && decide (row.map (fun k => (2 : Int) ^ (5 - gvR row k).toNat) = [32, 16, 8, 4, 2, 1])
theorem chk00 : ∀ d3 : Fin 4, ∀ d4 : Fin 5, ∀ d5 : Fin 6, chkRow (rowD 0 0 d3.val d4.val d5.val) = true := by decide +kernel
theorem chk01 : ∀ d3 : Fin 4, ∀ d4 : Fin 5, ∀ d5 : Fin 6, chkRow (rowD 0 1 d3.val d4.val d5.val) = true := by decide +kernel
theorem chk02 : ∀ d3 : Fin 4, ∀ d4 : Fin 5, ∀ d5 : Fin 6, chkRow (rowD 0 2 d3.val d4.val d5.val) = true := by decide +kernel
theorem chk10 : ∀ d3 : Fin 4, ∀ d4 : Fin 5, ∀ d5 : Fin 6, chkRow (rowD 1 0 d3.val d4.val d5.val) = true := by decide +kernel
theorem chk11 : ∀ d3 : Fin 4, ∀ d4 : Fin 5, ∀ d5 : Fin 6, chkRow (rowD 1 1 d3.val d4.val d5.val) = true := by decide +kernel
theorem chk12 : ∀ d3 : Fin 4, ∀ d4 : Fin 5, ∀ d5 : Fin 6, chkRow (rowD 1 2 d3.val d4.val d5.val) = true := by decide +kernel
theorem chk_all : ∀ d1 : Fin 2, ∀ d2 : Fin 3, ∀ d3 : Fin 4, ∀ d4 : Fin 5, ∀ d5 : Fin 6, chkRow (rowD d1.val d2.val d3.val d4.val d5.val) = true
  | ⟨0, _⟩, ⟨0, _⟩ => chk00
  | ⟨0, _⟩, ⟨1, _⟩ => chk01
  | ⟨0, _⟩, ⟨2, _⟩ => chk02
  | ⟨1, _⟩, ⟨0, _⟩ => chk10
  | ⟨1, _⟩, ⟨1, _⟩ => chk11
  | ⟨1, _⟩, ⟨2, _⟩ => chk12
theorem fmod_dig (x : Int) (k : Nat) : (x.fmod ((k : Int) + 1)).toNat < k + 1 := by
  have h0 : 0 ≤ x.fmod ((k : Int) + 1) := Int.fmod_nonneg_of_pos _ (by walk_at "o")
  have h1 : x.fmod ((k : Int) + 1) < (k : Int) + 1 := Int.fmod_lt_of_pos _ (by walk_at "o")
  omega
theorem rowL_chk (n : Int) : chkRow (rowL n) = true := by
  have e : rowL n = ins 5 (((rowSt n 5).2.fmod (((5 : Nat) : Int) + 1)).toNat) (ins 4 (((rowSt n 4).2.fmod (((4 : Nat) : Int) + 1)).toNat) (ins 3 (((rowSt n 3).2.fmod (((3 : Nat) : Int) + 1)).toNat)
    (ins 2 (((rowSt n 2).2.fmod (((2 : Nat) : Int) + 1)).toNat) (ins 1 (((rowSt n 1).2.fmod (((1 : Nat) : Int) + 1)).toNat) (ins 0 (((rowSt n 0).2.fmod (((0 : Nat) : Int) + 1)).toNat) []))))) := rfl
  have z : ∀ d, ins 0 d [] = [0] := fun d => by simp [ins]
  rw [e, z]
  exact chk_all ⟨_, fmod_dig _ 1⟩ ⟨_, fmod_dig _ 2⟩ ⟨_, fmod_dig _ 3⟩ ⟨_, fmod_dig _ 4⟩ ⟨_, fmod_dig _ 5⟩
structure RowBig (row : List Int) : Prop where
  ok : RowOk row
  nd : row.Nodup
  perm : row.Perm (rangeL 6)
  pow : row.map (fun k => (2 : Int) ^ (5 - gvR row k).toNat) = [32, 16, 8, 4, 2, 1]
theorem row_big (n : Int) : RowBig (rowL n) := by
  have h := rowL_chk n
  generalize rowL n = row at *
  unfold chkRow at h
  simp only [Bool.and_eq_true, decide_eq_true_eq] at h
  obtain ⟨⟨⟨h1, h2⟩, h3⟩, h4⟩ := h
  have hp : row.Perm (rangeL 6) := List.isPerm_iff.mp h1
  have hnd : row.Nodup := hp.nodup_iff.mpr (by decide +kernel)
  have hlen : row.length = 6 := hp.length_eq.trans (by decide +kernel)
  refine ⟨⟨hlen, fun i j hi hj e => ?_, fun x hx => ?_, fun k k0 k1 => ?_, h2, h3⟩, hnd, hp, h4⟩
  · rw [List.getD_eq_getElem?_getD, List.getD_eq_getElem?_getD, List.getElem?_eq_getElem (by walk_at "o"), List.getElem?_eq_getElem (by walk_at "o")] at e
    exact (List.getElem_inj hnd).mp e
  · have := mem_rangeL.mp (hp.mem_iff.mp hx); exact ⟨this.1, by exact_mod_cast this.2⟩
  · exact hp.mem_iff.mpr (mem_rangeL.mpr ⟨k0, by exact_mod_cast k1⟩)
end Mine
end

section
set_option maxRecDepth 100000
set_option maxHeartbeats 4000000
namespace Mine
open PySem PySem.W PyProof.Rows

theorem or_low {x b : Int} (hx : 0 ≤ x) (h0 : 0 ≤ b) (h1 : b < 256) : Builtin.bitOr (x * 2 ^ 8) b = x * 256 + b := by
  obtain ⟨n, rfl⟩ := Int.eq_ofNat_of_zero_le hx
  obtain ⟨m, rfl⟩ := Int.eq_ofNat_of_zero_le h0
  have hm : m < 2 ^ 8 := by walk_at "o"
  unfold Builtin.bitOr Builtin.bitAnd Builtin.bitNot
  rw [decide_eq_false (by walk_at "o"), decide_eq_false (by walk_at "o")]
  dsimp only
  have e1 : (-(-((n : Int) * 2 ^ 8) - 1) - 1).toNat = 2 ^ 8 * n := by walk_at "o"
  have e2 : (-(-(m : Int) - 1) - 1).toNat = m := by walk_at "o"
  rw [e1, e2, ← Nat.two_pow_add_eq_or_of_lt hm]
  omega
theorem enc0 : enc [] = [] := rfl
theorem step1 {a : Int} (a0 : 0 ≤ a) (a1 : a < 256) : byteStep ([], 0, 0) a = ([b64at (a / 4)], 2, a) := by
  unfold byteStep
  dsimp only
  rw [or_low (x := 0) (by decide) a0 a1, bitAnd_m16]
  have e : (0 * 256 + a) % 65536 = a := by walk_at "o"
  rw [e, whileOut_step a (by decide)]
  have e2 : whileOut a (0 + 8 - 6) = [] := by show whileOut a (1 + 1) = []; rw [whileOut]; exact if_neg (by decide)
  rw [e2, bitAnd_m6]
  have e3 : (a.fdiv (2 ^ (0 + 8 - 6))) % 64 = a / 4 := by
    rw [Int.fdiv_eq_ediv_of_nonneg _ (by decide)]
    show (a / 4) % 64 = a / 4
    omega
  rw [e3]; rfl
theorem step2 {a b : Int} (o : List Int) (a0 : 0 ≤ a) (a1 : a < 256) (b0 : 0 ≤ b) (b1 : b < 256) : byteStep (o, 2, a) b = (o ++ [b64at (a % 4 * 16 + b / 16)], 4, a * 256 + b) := by
  unfold byteStep
  dsimp only
  rw [or_low a0 b0 b1, bitAnd_m16]
  have e : (a * 256 + b) % 65536 = a * 256 + b := by walk_at "o"
  rw [e, whileOut_step _ (by decide)]
  have e2 : whileOut (a * 256 + b) (2 + 8 - 6) = [] := by show whileOut (a * 256 + b) (3 + 1) = []; rw [whileOut]; exact if_neg (by decide)
  rw [e2, bitAnd_m6]
  have e3 : ((a * 256 + b).fdiv (2 ^ (2 + 8 - 6))) % 64 = a % 4 * 16 + b / 16 := by
    rw [Int.fdiv_eq_ediv_of_nonneg _ (by decide)]
    show ((a * 256 + b) / 16) % 64 = _
    omega
  rw [e3]
theorem step3 {x c : Int} (o : List Int) (x0 : 0 ≤ x) (c0 : 0 ≤ c) (c1 : c < 256) : byteStep (o, 4, x) c = (o ++ [b64at (x % 16 * 4 + c / 64), b64at (c % 64)], 0, (x * 256 + c) % 65536) := by
  unfold byteStep
  dsimp only
  rw [or_low x0 c0 c1, bitAnd_m16]
  generalize hq : (x * 256 + c) % 65536 = q
  rw [whileOut_step _ (by decide)]
  rw [whileOut_step _ (by decide)]
  have e2 : whileOut q (4 + 8 - 6 - 6) = [] := by show whileOut q 0 = []; rw [whileOut]
  rw [e2, bitAnd_m6, bitAnd_m6]
  have e3 : (q.fdiv (2 ^ (4 + 8 - 6))) % 64 = x % 16 * 4 + c / 64 := by
    rw [Int.fdiv_eq_ediv_of_nonneg _ (by decide)]
    show (q / 64) % 64 = _
    omega
  have e4 : (q.fdiv (2 ^ (4 + 8 - 6 - 6))) % 64 = c % 64 := by
    rw [Int.fdiv_eq_ediv_of_nonneg _ (by decide)]
    show (q / 1) % 64 = _
    omega
  rw [e3, e4]
theorem enc1 {a : Int} (a0 : 0 ≤ a) (a1 : a < 256) : enc [a] = [b64at (a / 4), b64at (a % 4 * 16), 61, 61] := by
  unfold enc encSt
  rw [List.foldl_cons, List.foldl_nil, step1 a0 a1]
  unfold encTail
  dsimp only
  rw [if_pos rfl, bitAnd_m2]
  rfl
theorem enc2 {a b : Int} (a0 : 0 ≤ a) (a1 : a < 256) (b0 : 0 ≤ b) (b1 : b < 256) : enc [a, b] = [b64at (a / 4), b64at (a % 4 * 16 + b / 16), b64at (b % 16 * 4), 61] := by
  unfold enc encSt
  rw [List.foldl_cons, List.foldl_cons, List.foldl_nil, step1 a0 a1, step2 _ a0 a1 b0 b1]
  unfold encTail
  dsimp only
  rw [if_neg (by decide), if_pos rfl, bitAnd_m4]
  have : (a * 256 + b) % 16 * 2 ^ 2 = b % 16 * 4 := by walk_at "o"
  rw [this]
  rfl
theorem enc3 {a b c : Int} (a0 : 0 ≤ a) (a1 : a < 256) (b0 : 0 ≤ b) (b1 : b < 256) (c0 : 0 ≤ c) (c1 : c < 256) : enc [a, b, c] = [b64at (a / 4), b64at (a % 4 * 16 + b / 16), b64at (b % 16 * 4 + c / 64), b64at (c % 64)] := by
  unfold enc encSt
  rw [List.foldl_cons, List.foldl_cons, List.foldl_cons, List.foldl_nil, step1 a0 a1, step2 _ a0 a1 b0 b1, step3 _ (by walk_at "o") c0 c1]
  unfold encTail
  dsimp only
  rw [if_neg (by decide), if_neg (by decide)]
  have : (a * 256 + b) % 16 * 4 + c / 64 = b % 16 * 4 + c / 64 := by walk_at "o"
  rw [this]
  rfl
theorem b64_ne : ∀ i : Fin 64, b64at ((i.val : Nat) : Int) ≠ 61 := by decide +kernel
theorem b64_ne' {i : Int} (h0 : 0 ≤ i) (h1 : i < 64) : b64at i ≠ 61 := by
  have := b64_ne ⟨i.toNat, by walk_at "o"⟩
  rwa [show ((i.toNat : Nat) : Int) = i by walk_at "o"] at this
theorem filt61 {l : List Int} (h : ∀ i ∈ l, 0 ≤ i ∧ i < 64) (n : Nat) : filt (l.map b64at ++ List.replicate n 61) [61] = l.map b64at := by
  unfold filt
  rw [List.filter_append]
  have h1 : List.filter (fun a => decide (a ∉ ([61] : List Int))) (l.map b64at) = l.map b64at := by
    refine List.filter_eq_self.mpr fun a ha => ?_
    obtain ⟨i, hi, rfl⟩ := List.mem_map.mp ha
    have := b64_ne' (h i hi).1 (h i hi).2
    simpa using this
  have h2 : List.filter (fun a => decide (a ∉ ([61] : List Int))) (List.replicate n 61) = [] := by
    refine List.filter_eq_nil_iff.mpr fun a ha => ?_
    rw [(List.mem_replicate.mp ha).2]; simp
  rw [h1, h2, List.append_nil]
end Mine
end

section
set_option maxRecDepth 100000
set_option maxHeartbeats 4000000
namespace Mine
open PySem PySem.W

theorem rL1 : rangeL 1 = [0] := rfl
theorem rL2 : rangeL 2 = [0, 1] := rfl
theorem rL3 : rangeL 3 = [0, 1, 2] := rfl
theorem rL4 : rangeL 4 = [0, 1, 2, 3] := rfl
theorem bits1 (a : Int) : bitsV [a] = a * 65536 := by
  unfold bitsV
  rw [show ([a] : List Int).length = 1 from rfl, rL1]
  show a * 256 ^ 2 + 0 = _
  omega
theorem bits2 (a b : Int) : bitsV [a, b] = a * 65536 + b * 256 := by
  unfold bitsV
  rw [show ([a, b] : List Int).length = 2 from rfl, rL2]
  show a * 256 ^ 2 + (b * 256 ^ 1 + 0) = _
  omega
theorem bits3 (a b c : Int) : bitsV [a, b, c] = a * 65536 + b * 256 + c := by
  unfold bitsV
  rw [show ([a, b, c] : List Int).length = 3 from rfl, rL3]
  show a * 256 ^ 2 + (b * 256 ^ 1 + (c * 256 ^ 0 + 0)) = _
  omega
theorem fdm (x : Int) {y : Int} (hy : 0 ≤ y) : (x.fdiv y).fmod 64 = x / y % 64 := by
  rw [Int.fdiv_eq_ediv_of_nonneg _ hy, Int.fmod_eq_emod_of_nonneg _ (by decide)]
theorem v0 {a b c : Int} (a0 : 0 ≤ a) (a1 : a < 256) (b0 : 0 ≤ b) (b1 : b < 256) (c0 : 0 ≤ c) (c1 : c < 256) : ((a * 65536 + b * 256 + c).fdiv (64 ^ 3)).fmod 64 = a / 4 := by
  rw [fdm _ (by decide)]; omega
theorem v1 {a b c : Int} (b0 : 0 ≤ b) (b1 : b < 256) (c0 : 0 ≤ c) (c1 : c < 256) : ((a * 65536 + b * 256 + c).fdiv (64 ^ 2)).fmod 64 = a % 4 * 16 + b / 16 := by
  rw [fdm _ (by decide)]; omega
theorem v2 {a b c : Int} (c0 : 0 ≤ c) (c1 : c < 256) : ((a * 65536 + b * 256 + c).fdiv (64 ^ 1)).fmod 64 = b % 16 * 4 + c / 64 := by
  rw [fdm _ (by decide)]; omega
theorem v3 {a b c : Int} : ((a * 65536 + b * 256 + c).fdiv (64 ^ 0)).fmod 64 = c % 64 := by
  rw [fdm _ (by decide)]; omega
theorem vals3 {a b c : Int} (a0 : 0 ≤ a) (a1 : a < 256) (b0 : 0 ≤ b) (b1 : b < 256) (c0 : 0 ≤ c) (c1 : c < 256) : valuesV [a, b, c] = [a / 4, a % 4 * 16 + b / 16, b % 16 * 4 + c / 64, c % 64] := by
  unfold valuesV
  rw [if_neg (by simp), bits3, show ([a, b, c] : List Int).length + 1 = 4 from rfl, rL4]
  show [((a * 65536 + b * 256 + c).fdiv (64 ^ 3)).fmod 64, ((a * 65536 + b * 256 + c).fdiv (64 ^ 2)).fmod 64, ((a * 65536 + b * 256 + c).fdiv (64 ^ 1)).fmod 64, ((a * 65536 + b * 256 + c).fdiv (64 ^ 0)).fmod 64] = _
  rw [v0 a0 a1 b0 b1 c0 c1, v1 b0 b1 c0 c1, v2 c0 c1, v3]
theorem vals2 {a b : Int} (a0 : 0 ≤ a) (a1 : a < 256) (b0 : 0 ≤ b) (b1 : b < 256) : valuesV [a, b] = [a / 4, a % 4 * 16 + b / 16, b % 16 * 4] := by
  unfold valuesV
  rw [if_neg (by simp), bits2, show ([a, b] : List Int).length + 1 = 3 from rfl, rL3, ← Int.add_zero (a * 65536 + b * 256)]
  show [((a * 65536 + b * 256 + 0).fdiv (64 ^ 3)).fmod 64, ((a * 65536 + b * 256 + 0).fdiv (64 ^ 2)).fmod 64, ((a * 65536 + b * 256 + 0).fdiv (64 ^ 1)).fmod 64] = _
  rw [v0 a0 a1 b0 b1 (by decide) (by decide), v1 b0 b1 (by decide) (by decide), v2 (by decide) (by decide)]
  rw [show (0 : Int) / 64 = 0 from rfl, Int.add_zero]
theorem vals1 {a : Int} (a0 : 0 ≤ a) (a1 : a < 256) : valuesV [a] = [a / 4, a % 4 * 16] := by
  unfold valuesV
  rw [if_neg (by simp), bits1, show ([a] : List Int).length + 1 = 2 from rfl, rL2, ← Int.add_zero (a * 65536), ← Int.add_zero (a * 65536 + 0)]
  show [((a * 65536 + 0 * 256 + 0).fdiv (64 ^ 3)).fmod 64, ((a * 65536 + 0 * 256 + 0).fdiv (64 ^ 2)).fmod 64] = _
  rw [v0 a0 a1 (by decide) (by decide) (by decide) (by decide), v1 (by decide) (by decide) (by decide) (by decide)]
  rw [show (0 : Int) / 16 = 0 from rfl, Int.add_zero]
theorem code_of {ol vals : List Int} {n : Nat} (hr : ∀ x ∈ ol, 0 ≤ x ∧ x < 256) (hl : ol.length ≤ 3) (hv : valuesV ol = vals) (vr : ∀ v ∈ vals, 0 ≤ v ∧ v < 64) (vl : vals.length ≤ 4) (he : enc ol = vals.map b64at ++ List.replicate n 61) (hn : n = ((-(ol.length : Int)).fmod 3).toNat) (hn3 : n ≤ 2) : CodeOk ol := by
  subst hv
  have h1 : filt (enc ol) [61] = (valuesV ol).map b64at := by rw [he]; exact filt61 vr n
  refine ⟨hr, hl, vr, vl, ?_, h1, ?_⟩
  · rw [he, List.length_append, List.length_map, List.length_replicate]; omega
  · rw [h1, ← hn]; exact he
theorem code_ok : ∀ (ol : List Int), (∀ x ∈ ol, 0 ≤ x ∧ x < 256) → ol.length ≤ 3 → CodeOk ol
  | [], hr, hl => code_of (n := 0) hr hl (vals := []) rfl (by simp) (by simp) enc0 (by decide) (by decide)
  | [a], hr, hl => by
    have ha := hr a (by simp)
    refine code_of (n := 2) hr hl (vals1 ha.1 ha.2) ?_ (by simp) (enc1 ha.1 ha.2) (by show 2 = ((-((1 : Nat) : Int)).fmod 3).toNat; decide +kernel) (by decide)
    intro v hv; simp at hv; rcases hv with rfl | rfl <;> omega
  | [a, b], hr, hl => by
    have ha := hr a (by simp)
    have hb := hr b (by simp)
    refine code_of (n := 1) hr hl (vals2 ha.1 ha.2 hb.1 hb.2) ?_ (by simp) (enc2 ha.1 ha.2 hb.1 hb.2) (by show 1 = ((-((2 : Nat) : Int)).fmod 3).toNat; decide +kernel) (by decide)
    intro v hv; simp at hv; rcases hv with rfl | rfl | rfl <;> omega
  | [a, b, c], hr, hl => by
    have ha := hr a (by simp)
    have hb := hr b (by simp)
    have hc := hr c (by simp)
    refine code_of (n := 0) hr hl (vals3 ha.1 ha.2 hb.1 hb.2 hc.1 hc.2) ?_ (by simp) (enc3 ha.1 ha.2 hb.1 hb.2 hc.1 hc.2) (by show 0 = ((-((3 : Nat) : Int)).fmod 3).toNat; decide +kernel) (by decide)
    intro v hv; simp at hv; rcases hv with rfl | rfl | rfl | rfl <;> omega
  | _ :: _ :: _ :: _ :: _, _, hl => by simp at hl

noncomputable def keyZ (row : List Int) (m : Int) : Int := (((rangeL 6).filter (bitM m)).map fun k => (2 : Int) ^ (5 - gvR row k).toNat).sum
theorem sum_perm {l l' : List Int} (h : l.Perm l') : l.sum = l'.sum := by
  induction h with
  | nil => rfl
  | cons x _ ih => simp only [List.sum_cons, ih]
  | swap x y l => simp only [List.sum_cons]; omega
  | trans _ _ ih1 ih2 => exact ih1.trans ih2
noncomputable def pwL : Nat → List Int
  | 0 => []
  | n + 1 => ((2 ^ n : Nat) : Int) :: pwL n
theorem key_sum (f : Int → Int) (p : Int → Bool) : ∀ row : List Int, row.map f = pwL row.length → ((row.filter p).map f).sum = ((keyN row p : Nat) : Int)
  | [], _ => rfl
  | x :: r, h => by
    have h1 := List.cons.inj h
    have ih := key_sum f p r h1.2
    rw [List.filter_cons, keyN]
    cases p x with
    | false => rw [if_neg (by decide), if_neg (by decide), Nat.zero_add]; exact ih
    | true => rw [if_pos rfl, if_pos rfl, List.map_cons, List.sum_cons, ih, h1.1]; exact (Int.natCast_add _ _).symm
theorem keyZ_eq {row : List Int} (x : RowBig row) (m : Int) : keyZ row m = ((keyN row (bitM m) : Nat) : Int) :=
  (sum_perm ((x.perm.symm.filter _).map _)).trans (key_sum _ _ row (x.pow.trans (by rw [x.ok.len]; rfl)))
end Mine
end

section
open PySem PySem.W PyProof.Rows
set_option maxRecDepth 100000
set_option maxHeartbeats 4000000
namespace Mine
open PySem PySem.Spec PySem.Calls PyProof.Rows PySem.W

noncomputable def llD (nss : List (List Int)) : List PyData := nss.map fun ns => PyData.list (ns.map PyData.int)
theorem ll_lay : ∀ nss : List (List Int), PyData.canLayAll0 (llD nss) = true
  | [] => rfl
  | ns :: r => by
    have ih := ll_lay r
    unfold llD at ih ⊢
    simp [PyData.canLayAll0, PyData.canLay0, ke_canLayAll0, ih]
theorem ll_depth : ∀ nss : List (List Int), PyData.depthAll (llD nss) ≤ 2
  | [] => by simp [llD, PyData.depthAll]
  | ns :: r => by
    have ih := ll_depth r
    unfold llD at ih ⊢
    simp [PyData.depthAll, PyData.depth, ke_depthAll]
    omega
theorem ll_shaped (nss : List (List Int)) : SeqAt.shaped (.list (llD nss)) = true := by
  have h1 := ll_lay nss
  have h2 := ll_depth nss
  simp [SeqAt.shaped, PyData.canLay0, PyData.depth, h1]
  omega
theorem ll_eqv : ∀ nss : List (List Int), PyData.eqvAll (llD nss) (llD nss) = true
  | [] => by simp [llD, PyData.eqvAll]
  | ns :: r => by
    have ih := ll_eqv r
    unfold llD at ih ⊢
    simp only [List.map_cons, PyData.eqvAll, PyData.eqv, ked_eqvAll, ih]
    simp
theorem ll_reads {fs : List Addr} {h : Heap} : ∀ {vs : List Value} {nss : List (List Int)}, Pr fs h vs nss → ∃ as, ReadsAll h vs (llD nss) as
  | [], [], _ => ⟨[], .nil⟩
  | [], _ :: _, p => by have := p.1; simp at this
  | _ :: _, [], p => by have := p.1; simp at this
  | v :: vs, ns :: nss, p => by
    obtain ⟨b, ns', rfl, e, ⟨bv, bls, bia, _⟩⟩ := p.get (i := 0) rfl
    simp at e; subst e
    obtain ⟨as, ih⟩ := ll_reads (vs := vs) (nss := nss) ⟨by have := p.1; simpa using this, fun i v q => by simpa using p.2 (i + 1) v (by simpa using q)⟩
    exact ⟨_, .cons (reads_newData bls.il (ke_carried bia)) ih⟩
section
variable {w : World} {mg mb : Str → Option Value} {hb : Heap} {prog : Program} {A : Around} {outer : List Env} {E : Value → Shared → Prop} {h : Heap} {g : Array GenState} {d : Drawn} {t : Nat} {os : OsState} {s : Shared}
theorem eq_ll {a b : Addr} {fs : List Addr} {nss : List (List Int)} {Q : Value → Shared → Prop} (ha : LL fs s.heap a nss) (hb : LL fs s.heap b nss) (hu : A.units + 64 < cLine) (k : Q (.bool true) s) : wpAny (model prog w) A (compareOp .Eq (.ref a) (.ref b)) Q E s := by
  obtain ⟨vs, ls, _, p⟩ := ha
  obtain ⟨ws, ms, _, q⟩ := hb
  obtain ⟨as, ra⟩ := ll_reads p
  obtain ⟨bs, rb⟩ := ll_reads q
  obtain ⟨n, e⟩ := ls
  obtain ⟨n', e'⟩ := ms
  refine eq_dataH (reads_list_at e rfl rfl ra) (reads_list_at e' rfl rfl rb) (ll_shaped nss) (ll_shaped nss) hu ?_
  rw [show PyData.eqv (.list (llD nss)) (.list (llD nss)) = true by simp only [PyData.eqv, ll_eqv]]
  exact k

/-- a lambda is entered whose one parameter is a cell -/
theorem enterHEC {f c' : Addr} {v : Value} {x : Str} {args : List Value} {name qual : Str} {params : Arguments} {body : Expr} {scope : Scope} {cl : List (Str × Addr)} {pm ctv : Value}
    {R : Result → Shared → Prop}
    (H : Bs w mg mb hb) (B : Below A hb outer s.heap) (hroom : A.depth < recursionLimit)
    (ho : s.heap.get? f = some (kla_obj name qual params body scope cl pm c' ctv)) (hcd : s.heap.CodeRec (.ref c') qual)
    (hbind : bindArgs (kla_fn name qual params body scope cl pm (.ref c') ctv) ⟨args, []⟩ = pure [(x, v)])
    (hcf : ∀ n, cellsFrom n scope.names cl = (x, n) :: cl) (hpc : ∀ h, pushCells h scope.names = h.push { cls := .type "cell", data := .cell none }) (hx : scope.names.lookup x = some .cell)
    (h : ∀ L K h₁ tk, L = s.heap.objs.size → h₁.Ns L (fun _ => none) → h₁.IsCell K (some v) → s.heap.get? K = none → K ≠ L → s.heap.StaysIn h₁ → Below (A.deeper (envX qual scope L f (.ref c') ((x, K) :: cl))) hb (envX qual scope L f (.ref c') ((x, K) :: cl) :: outer) h₁ →
      wpAny (model prog w) (A.deeper (envX qual scope L f (.ref c') ((x, K) :: cl))) (eval body (envX qual scope L f (.ref c') ((x, K) :: cl)))
        (fun v s' => R (.ok (.ret v)) s')
        (fun e s' => wpAny (model prog w) (A.deeper (envX qual scope L f (.ref c') ((x, K) :: cl))) (leaving (envX qual scope L f (.ref c') ((x, K) :: cl)) e) (fun _ s'' => R (.error e) s'') (fun e' s'' => R (.error e') s'') s')
        { s with heap := h₁, toks := tk })
    (hco : scope.isCoroutine = false := by rfl) (hgen : scope.isGenerator = false := by rfl) (hk : scope.kind = .function := by rfl) :
    codeAny (model prog w) A (.call (.ref f) ⟨args, []⟩) R s := by
  refine kla_callFunE hroom ho rfl hco hgen rfl hcd ?_
  rw [hbind]
  refine wpAny_pure ?_
  simp only [newFunctionEnv]
  refine wpAny_bind (wpAny_alloc ?_)
  refine wpAny_bind (wpAny_layCells _ (fun name kind cells => by cases hkc : kind == NameKind.cell <;> simp) _ _ _ _ ?_)
  rw [hcf, hpc]
  rw [List.forIn_cons]
  obtain ⟨h₀, g, d, t, os⟩ := s
  dsimp only at *
  have hK : (h₀.push { cls := .type "frame", data := .dict #[] }).objs.size = h₀.objs.size + 1 := by rw [Heap.size_push]
  have hL₄ : ((h₀.push { cls := .type "frame", data := .dict #[] }).push { cls := .type "cell", data := .cell none }).Ns h₀.objs.size (fun _ => none) := (Heap.Ns.new h₀ (.type "frame")).keeps fun b o e => Heap.get?_push_of_some _ e
  have hK₄ : ((h₀.push { cls := .type "frame", data := .dict #[] }).push { cls := .type "cell", data := .cell none }).IsCell (h₀.objs.size + 1) none := ⟨_, by rw [← hK]; exact Heap.get?_push_size _ rfl, rfl⟩
  have k₄ : h₀.StaysIn ((h₀.push { cls := .type "frame", data := .dict #[] }).push { cls := .type "cell", data := .cell none }) := fun b o e => Heap.get?_push_of_some _ (Heap.get?_push_of_some _ e)
  have nK : h₀.get? (h₀.objs.size + 1) = none := Heap.get?_none_of_le (Nat.le_succ _)
  have nKL : h₀.objs.size + 1 ≠ h₀.objs.size := Nat.succ_ne_self _
  simp only [Option.isSome_none, Bool.false_eq_true, if_false]
  rw [hK]
  generalize ((h₀.push { cls := .type "frame", data := .dict #[] }).push { cls := .type "cell", data := .cell none }) = h₄ at *
  generalize hLq : h₀.objs.size = L at *
  generalize L + 1 = K at *
  refine wpAny_bind (wpAny_bind (wpAny_bind (wpAny_storeName_cell (c := K) (v₀ := none) ?_ ?_ ?_ hK₄ fun h₅ hv₅ hs₅ => ?_)))
  · exact hk
  · exact hx
  · exact List.lookup_cons_self
  refine wpAny_pure ?_
  dsimp only
  rw [List.forIn_nil]
  refine wpAny_pure (wpAny_pure ?_)
  have k₅ : h₀.StaysIn h₅ := fun b o e => hs₅.extBut b o (fun q => by rw [q, nK] at e; cases e) (k₄ _ _ e)
  refine ⟨(H.lim.keeps B.stays).keeps k₅, ?_⟩
  have hL₅ : h₅.Ns L (fun _ => none) := hL₄.at' fun o e => hs₅.extBut L o (Ne.symm nKL) e
  show codeAny _ _ (.expr body (envX qual scope L f (.ref c') ((x, K) :: cl))) _ _
  exact kla_codeExpr (h L K h₅ _ rfl hL₅ hv₅ nK nKL k₅ (below_push B rfl (by show scope.kind ≠ _; rw [hk]; decide) hLq.symm k₅ hL₅))
end
end Mine
end

section
open PySem PySem.W PyProof.Rows
set_option maxRecDepth 100000
set_option maxHeartbeats 4000000
namespace Mine
open PySem PySem.Spec PySem.Calls PyProof.Rows PySem.W

noncomputable def keyLam : Expr := kwE (bodyA (nth lawB 16))
section
variable {w : World} {mg mb : Str → Option Value} {hb : Heap} {prog : Program} {A : Around} {outer : List Env} {E : Value → Shared → Prop} {s : Shared}
theorem key_lam {row : List Int} {lam c' cp pl : Addr} {name qual : Str} {pm ctv : Value} {n : Int} {tn : Tok} {Q : Value → Shared → Prop} (H : Bs w mg mb hb) (B : Below A hb outer s.heap) (hd : A.depth < recursionLimit) (hh : A.handled = none)
    (J : LamJ prog w (placeG row) lam c' cp pl name qual (lamPar keyLam) (lamBody keyLam) (lamSc keyLam) [("place", cp)] pm ctv (fr outer) s.heap) (ro : RowOk row) (h0 : 0 ≤ n) (h1 : n < 64)
    (k : ∀ h' tk t, Ret [] (fr outer) s.heap h' → Q (.int (keyZ row n) t) { s with heap := h', toks := tk }) :
    wpAny (model prog w) A (call (.ref lam) [.int n tn]) Q E s := by
  refine wpAny_call (enterHEC (outer := outer) (x := "meet") (v := .int n tn) H B hd J.ho J.cd rfl (fun _ => rfl) (fun _ => rfl) rfl (fun L K h₁ tk hL hn₁ hK₁ hKn hKL k₁ B₁ => ?_) rfl rfl rfl)
  have eB : lamBody keyLam = .Call _ _ _ _ := rfl
  rw [eB]; clear eB
  obtain ⟨h₀, g, d, t, os⟩ := s
  dsimp only at *
  have hLn : h₀.get? L = none := Heap.get?_none_of_le (by rw [hL]; exact Nat.le_refl _)
  have J₁ := J.under hLn k₁
  have hKf : K ∉ L :: fr outer := fun m => by
    rcases List.mem_cons.mp m with m | m
    · exact hKL m
    · exact fresh_notin B.frames hKn m
  refine Call_of rfl (gB (v := .builtin "sum") H B₁.stays (by kernel_rfl) (by kernel_rfl) (sp1 (icompR (cl := [("place", cp), ("meet", K)]) (fs := L :: fr outer) (bitM n) (fun k => (2 : Int) ^ (5 - gvR row k).toNat) rfl (by decide) rfl (by decide) rfl hh ?_)))
  refine Call_of rfl (gB (v := .type "range") H B₁.stays (by kernel_rfl) (by kernel_rfl) (sp1 (wpAny_Constant_int (sp0 ⟨keeps_type, range_1 fun r h₂ t₂ u1 u2 u3 k₂ hrn hr => ?_⟩))))
  have J₂ := J₁.ret0 (.of_stays k₂)
  have B₂ := below_kept B₁ k₂
  have hK₂ := cell_ret hK₁ (Ret.of_stays (X := []) k₂) (by simp) hKf
  refine ⟨r, _, _, _, 6, rfl, hr, by decide, fs_of B₂ rfl, ?_, ?_, ?_⟩
  · intro C mk tk₃ s₃ m₃ E' m0 m1 hnC hm r₃
    have tp := two_pow m0 m1
    refine tests1 (wpAny_isTrue_Compare1 (wpAny_BinOp (wpAny_BinOp (gC rfl (cell_ret hK₂ r₃ (by simp) hKf) (wpAny_BinOp (wpAny_Constant_int (gL hnC hm (pow_int_small m0 (by walk_at "o") (by decide) (floordiv_int tp.1 (wpAny_Constant_int (mod_int (by decide) (wpAny_Constant_int (eq_int (wpAny_truthy_bool ⟨int_beq _ _, s₃.heap, _, rfl, .refl⟩))))) (.inl (PyProof.noPylong_small tp.2)))))))))))
  · intro C mk tk₃ s₃ m₃ E' m0 m1 _ hnC hm r₃
    have J₃ := J₂.ret0 r₃
    obtain ⟨e1, p1, p2⟩ := ro.gv m0 (by exact_mod_cast m1)
    refine wpAny_BinOp (wpAny_Constant_int (wpAny_BinOp (wpAny_Constant_int (Sub_di (gF (c := cp) rfl J₃.ce (gL hnC hm ⟨_, pl, placeG row, mk, tk₃, gvR row mk, rfl, rfl, J₃.di, e1, fun u => sub_int (pow_int_small (by walk_at "o") (by walk_at "o") (by decide) ⟨s₃.heap, _, _, rfl, .refl, rfl⟩)⟩))))))
  · intro D h₃ t₃ hDn hD r₃
    obtain ⟨dv, dls, dia, dnf⟩ := hD
    refine sp0 ⟨keeps_builtin, sum_ll (s := ⟨h₃, g, d, t₃, os⟩) hh dls dia fun h₄ t₄ u₄ k₄ => ?_⟩
    exact k h₄ t₄ u₄ (Ret.leave (X := []) hL k₁ ((((Ret.of_stays k₂).trans r₃).trans (.of_stays k₄)).wide (by simp)))
end
end Mine
end

section
open PySem PySem.W PyProof.Rows
set_option maxRecDepth 100000
set_option maxHeartbeats 4000000
namespace Mine
open PySem PySem.Spec PySem.Calls PyProof.Rows PySem.W

noncomputable def pickE {α : Type} (l : List α) (lo hi st : Option Int) : List α :=
  (sliceRange (sliceBounds lo hi st l.length).1 (sliceBounds lo hi st l.length).2.1 (sliceBounds lo hi st l.length).2.2).filterMap (l[·]?)
theorem MP.pick {fs : List Addr} {h : Heap} {vs : List Value} {es : List (List Int ⊕ Int)} (p : MP fs h vs es) (lo hi st : Option Int) : MP fs h (slicePick vs.toArray lo hi st).toList (pickE es lo hi st) := by
  have e : (slicePick vs.toArray lo hi st).toList = (sliceRange (sliceBounds lo hi st es.length).1 (sliceBounds lo hi st es.length).2.1 (sliceBounds lo hi st es.length).2.2).filterMap (vs[·]?) := by
    simp [slicePick, p.length]
  rw [e]
  exact p.places _
theorem idx_even : ∀ n : Fin 17, sliceRange (sliceBounds none none (some 2) (2 * (n.val + 1) - 1)).1 (sliceBounds none none (some 2) (2 * (n.val + 1) - 1)).2.1 (sliceBounds none none (some 2) (2 * (n.val + 1) - 1)).2.2 = (List.range (n.val + 1)).map (2 * ·) := by decide +kernel
theorem idx_odd : ∀ n : Fin 17, sliceRange (sliceBounds (some 1) none (some 2) (2 * (n.val + 1) - 1)).1 (sliceBounds (some 1) none (some 2) (2 * (n.val + 1) - 1)).2.1 (sliceBounds (some 1) none (some 2) (2 * (n.val + 1) - 1)).2.2 = (List.range n.val).map (2 * · + 1) := by decide +kernel
theorem filterMap_some {α β : Type} {f : α → Option β} {g : α → β} : ∀ {l : List α}, (∀ x ∈ l, f x = some (g x)) → l.filterMap f = l.map g
  | [], _ => rfl
  | x :: r, h => by rw [List.filterMap_cons, h x (.head _), List.map_cons, filterMap_some fun y hy => h y (.tail _ hy)]
theorem esOf_len (sets : List (List Int)) : (esOf sets).length = 2 * sets.length - 1 := by simp [esOf]
theorem esOf_even {sets : List (List Int)} {j : Nat} (h : j < sets.length) : (esOf sets)[2 * j]? = some (.inl (sets.getD j [])) := by
  unfold esOf
  rw [List.getElem?_map, List.getElem?_range (by walk_at "o"), Option.map_some, if_pos (by walk_at "o"), show 2 * j / 2 = j by walk_at "o"]
theorem esOf_odd {sets : List (List Int)} {j : Nat} (h : j + 1 < sets.length) : (esOf sets)[2 * j + 1]? = some (.inr ((j + 1 : Nat) : Int)) := by
  unfold esOf
  rw [List.getElem?_map, List.getElem?_range (by walk_at "o"), Option.map_some, if_neg (by walk_at "o"), show (2 * j + 1) / 2 = j by walk_at "o"]
theorem pick_even {sets : List (List Int)} (hn : sets ≠ []) (hl : sets.length ≤ 17) : pickE (esOf sets) none none (some 2) = sets.map .inl := by
  have h0 : 0 < sets.length := List.length_pos_iff.mpr hn
  unfold pickE
  rw [esOf_len]
  have := idx_even ⟨sets.length - 1, by walk_at "o"⟩
  simp only [show sets.length - 1 + 1 = sets.length by walk_at "o"] at this
  rw [this, List.filterMap_map, filterMap_some (g := fun j => .inl (sets.getD j []))]
  · apply List.ext_getElem?
    intro i
    by_cases hi : i < sets.length
    · rw [List.getElem?_map, List.getElem?_range hi, List.getElem?_map, List.getElem?_eq_getElem hi]
      simp [List.getElem?_eq_getElem hi]
    · rw [List.getElem?_eq_none (by simp; walk_at "o"), List.getElem?_eq_none (by simp; walk_at "o")]
  · intro j hj
    exact esOf_even (List.mem_range.mp hj)
theorem pick_odd {sets : List (List Int)} (hn : sets ≠ []) (hl : sets.length ≤ 17) : pickE (esOf sets) (some 1) none (some 2) = ((List.range (sets.length - 1)).map fun (i : Nat) => (1 : Int) + (i : Int)).map .inr := by
  have h0 : 0 < sets.length := List.length_pos_iff.mpr hn
  unfold pickE
  rw [esOf_len]
  have := idx_odd ⟨sets.length - 1, by walk_at "o"⟩
  simp only [show sets.length - 1 + 1 = sets.length by walk_at "o"] at this
  rw [this, List.filterMap_map, filterMap_some (g := fun j => .inr ((j + 1 : Nat) : Int)), List.map_map]
  · refine List.map_congr_left fun i _ => ?_
    show (Sum.inr (((i + 1 : Nat) : Int)) : List Int ⊕ Int) = Sum.inr (1 + (i : Int))
    rw [show ((i + 1 : Nat) : Int) = 1 + (i : Int) by walk_at "o"]
  · intro j hj
    have := List.mem_range.mp hj
    exact esOf_odd (by walk_at "o")
end Mine
end

section
open PySem PySem.W PyProof.Rows
set_option maxRecDepth 100000
set_option maxHeartbeats 4000000
namespace Mine
open PySem PySem.Spec PySem.Calls PyProof.Rows PySem.W

section
variable {w : World} {mg mb : Str → Option Value} {hb : Heap} {prog : Program} {A : Around} {outer : List Env} {E : Value → Shared → Prop} {h : Heap} {g : Array GenState} {d : Drawn} {t : Nat} {os : OsState} {L : Addr} {m cm : Str → Option Value} {F : List Fact}

/-- statements 16 and 17 -/
theorem seg_D3 {aV aT aP aR c₀ c₁ : Addr} {row vals : List Int} {Q : Flow → Shared → Prop} (H : Bs w mg mb hb) (B : Below A hb (lEnv L :: outer) h) (hh : A.handled = none) (hd : A.depth + 40 < recursionLimit) (hu : A.units + 1000 < cLine)
    (hbm : Bm mg hb) (C139 : CodeHd hb 141 139) (n139' : hb.get? 139 = none) (T97 : ∃ ps, h.get? 97 = some (tabObj ps)) (T139 : h.get? 139 = some (tabObj (#[rawInt 142, rawInt 44, .ref c₀] ++ #[rawInt 152, rawInt 18, .ref c₁])))
    (f97 : 97 ∉ L :: fr outer) (f139 : 139 ∉ L :: fr outer) (hL : 139 < L)
    (W : Law prog w (L :: fr outer) L (lawCells L) m cm F h) (hV : .il aV vals ∈ F) (hR : .il aR row ∈ F) (hP : .di aP (placeG row) ∈ F) (hT : .ml aT (esOf (toldS (vals.map (lackL row)) row 16)) ∈ F)
    (mv : m "values" = some (.ref aV)) (mt : m "told" = some (.ref aT)) (cr : cm "row" = some (.ref aR)) (cp : cm "place" = some (.ref aP)) (rb : RowBig row) (hv : ∀ v ∈ vals, 0 ≤ v ∧ v < 64) (hvl : vals.length ≤ 4)
    (k : ∀ h' t', (∃ ps, h'.get? 97 = some (tabObj ps)) → (∃ ps, h'.get? 139 = some (tabObj ps)) → Ret (XL L) (L :: fr outer) h h' → Q (.ret (.bool true)) ⟨h', g, d, t', os⟩) :
    wpAny (model prog w) A (execs (lawB.drop 16) (lEnv L)) Q E ⟨h, g, d, t, os⟩ := by
  have eB : lawB.drop 16 = _ :: _ := rfl
  rw [eB]; clear eB
  have ro := rb.ok
  have f137 : (TopF w.params).lookup 137 = some ⟨_, _, .func (fnX _ _ _ _ _ _ _ _ _ _ _ _ _), _⟩ := rfl
  have hml : (meetsL vals).length ≤ 16 := by
    refine Nat.le_trans (meetsL_len vals [63]) ?_
    have : 2 ^ vals.length ≤ 2 ^ 4 := Nat.pow_le_pow_right (by decide) hvl
    simpa using this
  have h63 : ∀ a ∈ ([63] : List Int), In64 a := by intro a ha; rw [List.mem_singleton.mp ha]; exact ⟨by decide, by decide⟩
  have hmi : ∀ n ∈ meetsL vals, In64 n := fun n hn => (meets_a vals [63] hv h63 n hn).1
  -- meets
  refine wpQS ?_
  intro Q₀ s₀
  refine wpAny_execs_cons (asgL (hb := hb) (outer := outer) rfl ?_)
  show wpAny _ _ (eval _ _ >>= fun f => callWith _ f [] _ _) _ _ _
  refine wpAny_bind (gB (v := .builtin "sorted") H B.stays (by kernel_rfl) (by kernel_rfl) (callWith_KWB rfl (sp1 (Call_of rfl (gG (v := .ref 137) H B.stays (by kernel_rfl) (sp1 (gL W.ns mv (sp0 ⟨keeps_func (B.stays _ _ (H.X _ _ f137)) rfl, ?_⟩))))))))
  refine meets_fn (outer := lEnv L :: outer) H B (by walk_at "o") hh (by rw [fr_cons rfl]; exact W.fa _ hV) (by walk_at "o") fun r h₁ t₁ hrn hr r₁ => sp0 ?_
  rw [fr_cons rfl] at r₁ hr
  have W₁ := W.ret0 r₁
  have B₁ := br_of B rfl r₁
  have T139₁ := r₁.keep _ _ (by simp) f139 T139
  refine kwAll_cons (lam_mk (c := 141) (P := 139) H hbm B₁.stays (C139.keeps B₁.stays) T139₁ (by simp [TriplesOk, rawInt]) (by simp [codeAmong, rawInt]) rfl rfl rfl rfl fun lam c' ctv pm h₂ t₂ lamn cn hlam hc' T139₂ k₂ => PyProof.Rows.evalAll_nil ?_)
  have R₂ : Ret [139] (L :: fr outer) h₁ h₂ := .of_ext fun b o hb' e => k₂ b o (fun q => hb' (by simp [q])) e
  have B₂ : Below A hb (lEnv L :: outer) h₂ := below_retX (X := [139]) B₁ (fun a ma => by rw [List.mem_singleton.mp ma]; exact ⟨n139', by rw [fr_cons rfl]; exact f139⟩) (by rw [fr_cons rfl]; exact R₂)
  have W₂ := W₁.tab R₂ T139₁
  have hr₂ : IL (L :: fr outer) h₂ r (meetsL vals) := hr.ret R₂ (fun q => by
    have hrn' := hrn
    obtain ⟨o, e⟩ := hr.there
    rw [List.mem_singleton.mp q, T139] at hrn'; cases hrn')
  have J₂ : LamJ prog w (placeG row) lam c' (L + 9) aP _ _ (lamPar keyLam) (lamBody keyLam) (lamSc keyLam) [("place", L + 9)] pm ctv (L :: fr outer) h₂ :=
    ⟨hlam, fn_of B₁ rfl lamn, hc', fn_of B₁ rfl cn, by have := (W₂.cl "place" (L + 9) rfl).1; rwa [cp] at this, (W₂.cl "place" (L + 9) rfl).2, W₂.fa _ hP⟩
  refine sortI_fn (s := ⟨h₂, g, d, t₂, os⟩) (kz := keyZ row) B₂ (by rw [fr_cons rfl]; exact hr₂) (by walk_at "o") (fun i n tn h₃ t₃ hn r₃ => ?_) fun aM h₃ t₃ out hMn hM hperm hsort r₃ => ?_
  · rw [fr_cons rfl] at r₃
    have hni := hmi n (List.mem_of_getElem? hn)
    refine key_lam (outer := lEnv L :: outer) H (below_at (br_of B₂ rfl r₃) rfl) (by show A.depth < _; walk_at "o") hh (by rw [fr_cons rfl]; exact J₂.ret0 r₃) ro hni.1 hni.2 fun h₄ t₄ u₄ r₄ => ⟨h₄, t₄, u₄, rfl, r₄, rfl⟩
  rw [fr_cons rfl] at r₃ hM
  have W₃ := (W₂.ret0 r₃).add (f := .il aM out) hM
  have B₃ := br_of B₂ rfl r₃
  refine ⟨h₃, t₃, _, _, _, rfl, B₃, W₃, fun h₄ t₄ B₄ W₄ r₄ => ?_⟩
  have n139 : 139 ∉ XC L := XC_not hL
  have n97 : 97 ∉ XC L := XC_not (Nat.lt_trans (by decide) hL)
  have T97₄ : ∃ ps, h₄.get? 97 = some (tabObj ps) := by
    obtain ⟨ps, e⟩ := T97
    exact ⟨ps, r₄.keep _ _ (XC_sub n97 (by simp)) f97 (r₃.keep _ _ (by simp) f97 (R₂.keep _ _ (by decide) f97 (r₁.keep _ _ (by simp) f97 e)))⟩
  have T139₄ := r₄.keep _ _ (XC_sub n139 (by simp)) f139 (r₃.keep _ _ (by simp) f139 T139₂)
  have R₄ : Ret (XL L) (L :: fr outer) h h₄ := (((r₁.wide (by simp)).trans (R₂.wide (by simp))).trans (r₃.wide (by simp))).trans (r₄.wide (by simp))
  clear T139₁ T139₂ J₂ hr₂ W₃ W₂ W₁ B₃ B₂ B₁ R₂ r₁ r₃ r₄ hr hrn hlam hc' lamn cn k₂ hM hMn B W
  have hlen : out.length ≤ 16 := hperm.length_eq ▸ hml
  have hmo : ∀ n ∈ out, In64 n := fun n hn => hmi n (hperm.mem_iff.mp hn)
  have htold : toldS (vals.map (lackL row)) row 16 = out.map fun n => row.filter (bitM n) := told_meets hv hvl rb.nd ro.rg ro.all (fun n _ => keyZ_eq rb n) hperm hsort
  have hne : out.map (fun n => row.filter (bitM n)) ≠ [] := by rw [← htold]; exact toldS_ne _ _ _
  rw [htold] at hT
  obtain ⟨tv, tls, tnf, tmp⟩ : ML (L :: fr outer) h₄ aT (esOf (out.map fun n => row.filter (bitM n))) := W₄.fa _ (.tail _ hT)
  have htl : tv.length ≤ 40 := by rw [tmp.length, esOf_len, List.length_map]; omega
  -- the answer
  have mt₄ : (fun z => if z = Str.ofString "meets" then some (Value.ref aM) else m z) (Str.ofString "told") = some (.ref aT) := (if_neg (by decide)).trans mt
  refine wpQS ?_
  intro Q₀ s₀
  refine wpAny_execs_cons (wpAny_Return_some (BoolOp_and (wpAny_Compare1 (Sub_slice (gL W₄.ns mt₄ (partN (partN (partS (wpAny_Constant_int ?_)))))))))
  refine ⟨aT, tv, _, _, _, rfl, tls, by rw [sizeLine_eq]; omega, .none, .none, .int _ _, by decide, fun D₅ h₅ k₅ hD₅n hD₅ => ?_⟩
  have hp₅ := tmp.pick none none (some 2)
  rw [pick_even hne (by rw [List.length_map]; walk_at "o")] at hp₅
  have W₅ := W₄.stays k₅
  have B₅ := below_kept B₄ k₅
  have hll₅ : LL (L :: fr outer) h₅ D₅ (out.map fun n => row.filter (bitM n)) := ⟨_, hD₅, fn_of B₄ rfl hD₅n, MP.lists (hp₅.mono fun b ns z => z.at (k₅ b))⟩
  have mM : (fun z => if z = Str.ofString "meets" then some (Value.ref aM) else m z) (Str.ofString "meets") = some (.ref aM) := if_pos rfl
  refine lcompC (cl := [("row", L + 3)]) (fs := L :: fr outer) (fun n => row.filter (bitM n)) rfl rfl (by decide) (fun _ => rfl) (fun _ => rfl) (fun _ _ => rfl) hh (gL W₅.ns mM ?_)
  refine ⟨aM, out, rfl, W₅.fa (.il aM out) (.head _), by walk_at "o", fs_of B₅ rfl, ?_, ?_⟩
  · intro C K n tn s₆ m₆ E' hn hnC hK hKf r₆
    have hni := hmo n hn
    have W₆ := W₅.ret0 r₆
    have hrow : s₆.heap.IsCell (L + 3) (some (.ref aR)) := by have := (W₆.cl "row" (L + 3) rfl).1; rwa [cr] at this
    refine icompL (cl := [("meet", K)]) (fs := L :: fr outer) (bitM n) id rfl (by decide) rfl (by decide) rfl hh (gC rfl hrow ?_)
    refine ⟨aR, row, rfl, W₆.fa (.il aR row) (.tail _ hR), by rw [ro.len]; omega, fun b mb => by obtain ⟨_, o, e, _⟩ := fr_there (br_of B₅ rfl r₆).frames (a := b) (by rw [fr_cons rfl]; exact mb); exact ⟨o, e⟩, ?_, ?_, ?_⟩
    · intro C₇ mk tk₇ s₇ m₇ E₇ hmk hnC₇ hm₇ r₇
      have hK₇ := cell_ret hK r₇ (by simp) hKf
      obtain ⟨m0, m1⟩ := ro.rg mk hmk
      have tp := two_pow m0 m1
      refine tests1 (wpAny_isTrue_Compare1 (wpAny_BinOp (wpAny_BinOp (gC rfl hK₇ (wpAny_BinOp (wpAny_Constant_int (gL hnC₇ hm₇ (pow_int_small m0 (by walk_at "o") (by decide) (floordiv_int tp.1 (wpAny_Constant_int (mod_int (by decide) (wpAny_Constant_int (eq_int (wpAny_truthy_bool ⟨int_beq _ _, s₇.heap, _, rfl, .refl⟩))))) (.inl (PyProof.noPylong_small tp.2)))))))))))
    · intro C₇ mk tk₇ s₇ m₇ E₇ hmk _ hnC₇ hm₇ r₇
      exact gL hnC₇ hm₇ ⟨s₇.heap, s₇.toks, tk₇, rfl, .refl, rfl⟩
    · intro D h₇ t₇ hDn hD r₇
      rw [List.map_id] at hD
      exact ⟨h₇, t₇, D, rfl, r₇, rfl, hDn, hD⟩
  intro D₆ h₆ t₆ hD₆n hD₆ r₆
  have W₆ := W₅.ret0 r₆
  have B₆ := br_of B₅ rfl r₆
  refine eq_ll (s := ⟨h₆, g, d, t₆, os⟩) (hll₅.ret r₆ (by simp)) hD₆ (by walk_at "o") (wpAny_truthy_bool ?_)
  rw [if_pos rfl]
  obtain ⟨tv', tls', tnf', tmp'⟩ : ML (L :: fr outer) h₆ aT (esOf (out.map fun n => row.filter (bitM n))) := W₆.fa _ (.tail _ hT)
  have htl' : tv'.length ≤ 40 := by rw [tmp'.length, esOf_len, List.length_map]; omega
  refine BoolOp_one (wpAny_Compare1 (Sub_slice (gL W₆.ns mt₄ (partS (wpAny_Constant_int (partN (partS (wpAny_Constant_int ?_))))))))
  refine ⟨aT, tv', _, _, _, rfl, tls', by rw [sizeLine_eq]; omega, .int _ _, .none, .int _ _, by decide, fun D₇ h₇ k₇ hD₇n hD₇ => ?_⟩
  have hp₇ := tmp'.pick (some 1) none (some 2)
  rw [pick_odd hne (by rw [List.length_map]; walk_at "o")] at hp₇
  have W₇ := W₆.stays k₇
  have B₇ := below_kept B₆ k₇
  obtain ⟨mv₇, mls₇, mia₇, mnf₇⟩ : IL (L :: fr outer) h₇ aM out := W₇.fa (.il aM out) (.head _)
  refine Call_of rfl (gB (v := .type "list") H B₇.stays (by kernel_rfl) (by kernel_rfl) (sp1 (Call_of rfl (gB (v := .type "range") H B₇.stays (by kernel_rfl) (by kernel_rfl) (sp1 (wpAny_Constant_int (sp1 (Call_of rfl (gB (v := .builtin "len") H B₇.stays (by kernel_rfl) (by kernel_rfl) (sp1 (gL W₇.ns mM (sp0 ⟨keeps_builtin, call_len_list mls₇.il (by rw [List.size_toArray, mia₇.length]; walk_at "o") (sp0 ⟨keeps_type, range_2 fun r h₈ t₈ u1 u2 u3 k₈ hrn hr => sp0 ⟨keeps_type, ?_⟩⟩)⟩))))))))))))
  rw [List.size_toArray, mia₇.length] at hr
  have hn1 : out.length ≠ 0 := fun q => hne (by rw [List.length_eq_zero_iff.mp q]; rfl)
  have hrg : ∀ n : Fin 17, Builtin.Range.small 1 ((n.val : Nat) : Int) 1 = true ∧ Builtin.Range.rangeSize 1 ((n.val : Nat) : Int) 1 = ((n.val - 1 : Nat) : Int) := by decide +kernel
  obtain ⟨hs1, hs2⟩ := hrg ⟨out.length, by walk_at "o"⟩
  refine list_range (n := out.length - 1) hh hr hs1 hs2 (by walk_at "o") fun D₉ vs₉ h₉ t₉ k₉ hD₉n hD₉ hi₉ => ?_
  have hp₇' := MP.ints (hp₇)
  rw [List.length_map] at hp₇'
  refine ke_eq_ints (hD₇.at fun o e => k₉ _ _ (k₈ _ _ e)).il hD₉.il hp₇' hi₉ (by walk_at "o") ?_
  rw [decide_eq_true rfl]
  have RR : Ret [] (L :: fr outer) h₄ h₉ := ((((Ret.of_stays k₅).trans r₆).trans (.of_stays k₇)).trans (.of_stays k₈)).trans (.of_stays k₉)
  refine k h₉ _ ?_ ?_ (R₄.trans (RR.wide (by simp)))
  · obtain ⟨ps, e⟩ := T97₄
    exact ⟨ps, RR.keep _ _ (by simp) f97 e⟩
  · exact ⟨_, RR.keep _ _ (by simp) f139 T139₄⟩
end
end Mine
end

section
open PySem PySem.W PyProof.Rows
set_option maxRecDepth 100000
set_option maxHeartbeats 4000000
namespace Mine
open PySem PySem.Spec PySem.Calls PyProof.Rows PySem.W

section
variable {w : World} {mg mb : Str → Option Value} {hb : Heap} {prog : Program} {A : Around} {outer : List Env} {s : Shared}

/-- a def of the top is entered, its variables cells too -/
theorem enterKC {f : Addr} {args : List Value} {binds : List (Str × Value)} {oc : Value} {od : Option Addr} {osl : Array (Option Value)} {name qual : Str} {params : Arguments} {body : List Stmt} {scope : Scope} {dV kV doc pm cdv ct : Value} {an : Option Addr}
    {R : Result → Shared → Prop}
    (H : Bs w mg mb hb) (B : Below A hb outer s.heap) (hroom : A.depth < recursionLimit)
    (ho : (TopF w.params).lookup f = some ⟨oc, od, .func (fnX name qual params body scope [] dV kV doc pm an cdv ct), osl⟩)
    (hcd : codeIn (TopF w.params) cdv qual = true)
    (hbind : BindsTo s (fnX name qual params body scope [] dV kV doc pm an cdv ct) ⟨args, []⟩ binds)
    (hkind : ∀ n, ∀ x ∈ binds, scope.names.lookup x.1 = some .local ∨ (scope.names.lookup x.1 = some .cell ∧ ((cellsFrom n scope.names []).lookup x.1).isSome = true))
    (h : ∀ L h₁ tk, L = s.heap.objs.size → h₁.Ns L (bindL (envX qual scope L f cdv (cellsFrom (L + 1) scope.names [])).kindOf binds fun _ => none) →
      (∀ n c, (cellsFrom (L + 1) scope.names []).lookup n = some c → h₁.IsCell c (bindC (envX qual scope L f cdv (cellsFrom (L + 1) scope.names [])).kindOf binds (fun _ => none) n) ∧ L < c) → s.heap.StaysIn h₁ →
      Below (A.deeper (envX qual scope L f cdv (cellsFrom (L + 1) scope.names []))) hb (envX qual scope L f cdv (cellsFrom (L + 1) scope.names []) :: outer) h₁ →
      wpAny (model prog w) (A.deeper (envX qual scope L f cdv (cellsFrom (L + 1) scope.names []))) (execs body (envX qual scope L f cdv (cellsFrom (L + 1) scope.names [])))
        (fun fl s' => R (.ok (.ret (match fl with | .ret v => v | _ => .none))) s')
        (fun e s' => wpAny (model prog w) (A.deeper (envX qual scope L f cdv (cellsFrom (L + 1) scope.names []))) (leaving (envX qual scope L f cdv (cellsFrom (L + 1) scope.names [])) e) (fun _ s'' => R (.error e) s'') (fun e' s'' => R (.error e') s'') s')
        { s with heap := h₁, toks := tk })
    (hco : scope.isCoroutine = false := by rfl) (hgen : scope.isGenerator = false := by rfl) (hk : scope.kind = .function := by rfl) :
    codeAny (model prog w) A (.call (.ref f) ⟨args, []⟩) R s := by
  refine codeAny_call_function hroom (B.stays _ _ (H.X _ _ ho)) rfl hco hgen rfl (codeRec_of (H.X.keeps B.stays) hcd) (hbind _ _ _ _ ?_)
  refine wpAny_newFunctionEnv_cells hk (hkind _) fun env' he s' x => ?_
  subst he
  refine ⟨(H.lim.keeps B.stays).keeps x.toInCall.keep, codeAny_func ?_⟩
  obtain ⟨h₁, tk, rfl, _⟩ := x.done
  exact h _ h₁ tk rfl x.toInCall.ns (fun n c e => ⟨x.cell n c e, x.above n c (mem_of_lookup e)⟩) x.toInCall.keep (below_push B rfl (by show scope.kind ≠ _; rw [hk]; decide) rfl x.toInCall.keep x.toInCall.ns)

theorem law_fn {l : Addr} {ns : List Int} {R : Result → Shared → Prop} (H : Bs w mg mb hb) (B : Below A hb outer s.heap) (hh : A.handled = none) (hd : A.depth + 60 < recursionLimit) (hu : A.units + 2000 < cLine)
    (hbm : Bm mg hb) (C97 : CodeHd hb 101 97) (C139 : CodeHd hb 141 139) (n97' : hb.get? 97 = none) (n139' : hb.get? 139 = none) (T97 : s.heap.get? 97 = some (tabObj #[])) (T139 : s.heap.get? 139 = some (tabObj #[]))
    (f97 : 97 ∉ fr outer) (f139 : 139 ∉ fr outer) (hl : IL (fr outer) s.heap l ns) (hz : ns.length ≤ 63)
    (k : ∀ h' tk, (∃ ps, h'.get? 97 = some (tabObj ps)) → (∃ ps, h'.get? 139 = some (tabObj ps)) → Ret [97, 139] (fr outer) s.heap h' → R (.ok (.ret (.bool true))) { s with heap := h', toks := tk }) :
    codeAny (model prog w) A (.call (.ref 142) ⟨[.ref l], []⟩) R s := by
  have ho : (TopF w.params).lookup 142 = some ⟨_, _, .func (fnX _ _ _ _ _ _ _ _ _ _ _ _ _), _⟩ := rfl
  refine enterKC (binds := [("script", .ref l)]) H B (by walk_at "o") ho (by kernel_rfl) (BindsTo.of_eq rfl) (fun n => kinds_of (by kinds_ok)) fun L h₁ tk hLs hnn hc k₁ B₁ => ?_
  clear ho
  obtain ⟨h₀, g, d, t, os⟩ := s
  dsimp only at *
  have hLn : ∀ i : Nat, h₀.get? (L + i : Nat) = none := fun i => Heap.get?_none_of_le (by rw [hLs]; exact Nat.le_add_right _ _)
  have hL0 : h₀.get? L = none := hLn 0
  have hfs0 : ∀ b ∈ fr outer, ∃ o, h₀.get? b = some o := fun b m => by obtain ⟨_, o, e, _⟩ := fr_there B.frames m; exact ⟨o, e⟩
  have hcb : ∀ i : Nat, hb.get? (L + (i + 1) : Nat) = none := fun i => stays_none B.stays (hLn (i + 1))
  have hL : 139 < L := by rw [hLs]; exact Heap.lt_size T139
  have g97 : 97 ∉ L :: fr outer := fun m => by
    rcases List.mem_cons.mp m with m | m
    · rw [m, hL0] at T97; cases T97
    · exact f97 m
  have g139 : 139 ∉ L :: fr outer := fun m => by
    rcases List.mem_cons.mp m with m | m
    · rw [m, hL0] at T139; cases T139
    · exact f139 m
  have hlL : l ≠ L := fun q => by obtain ⟨o, e⟩ := hl.there; rw [q, hL0] at e; cases e
  have x97 : 97 ∉ XC L := XC_not (Nat.lt_trans (by decide) hL)
  have x139 : 139 ∉ XC L := XC_not hL
  have W : Law prog w (L :: fr outer) L (lawCells L) _ _ [.il l ns] h₁ := ⟨hnn, fun n c e => ⟨(hc n c e).1, fun m => by
    have hlt := (hc n c e).2
    rcases List.mem_cons.mp m with m | m
    · exact absurd hlt (by rw [m]; exact Nat.lt_irrefl _)
    · obtain ⟨o, e'⟩ := hfs0 c m
      have := Heap.lt_size e'
      rw [← hLs] at this
      exact absurd hlt (Nat.not_lt.mpr (Nat.le_of_lt this))⟩, fun f mf => by
    rw [List.mem_singleton.mp mf]
    exact (hl.more hlL).at (k₁ l)⟩
  refine seg_A (hb := hb) (outer := outer) H B₁ hh (by show A.depth + 1 + 40 < _; walk_at "o") W rfl (.head _) hz hcb fun hA tA m' cmA aO aR ns3 total hn3 BA WA coA crA RA => ?_
  have rb := row_big total
  have hcode : CodeOk ((ns3.map fun x => x.fmod 256).take ((3 + total.fdiv 720).fmod 4).toNat) := by
    refine code_ok _ (fun x hx => ?_) ?_
    · obtain ⟨y, _, rfl⟩ := List.mem_map.mp (List.mem_of_mem_take hx)
      exact ⟨Int.fmod_nonneg_of_pos _ (by decide), Int.fmod_lt_of_pos _ (by decide)⟩
    · rw [List.length_take, List.length_map]; omega
  generalize ((ns3.map fun x => x.fmod 256).take ((3 + total.fdiv 720).fmod 4).toNat) = ol at *
  generalize rowL total = row at *
  have T97A := RA.keep _ _ x97 g97 (k₁ _ _ T97)
  have T139A := RA.keep _ _ x139 g139 (k₁ _ _ T139)
  refine seg_B (hb := hb) (outer := outer) H BA hh (by show A.depth + 1 + 40 < _; walk_at "o") (by show A.units + 3 + 100 < _; walk_at "o") hbm C97 C139 n97' n139' T97A T139A g97 g139 hL WA coA crA rb.ok hcb fun hB tB cmB aP aOr c₀ ta BB WB coB crB cpB corB caB T97B T139B RB => ?_
  refine seg_C1 (hb := hb) (outer := outer) H BB hh (by show A.depth + 1 + 40 < _; walk_at "o") (by show A.units + 3 + 100 < _; walk_at "o") WB (.head _) coB hcode hcb fun hC tC aV tb BC WC RC => ?_
  have ne1 : ∀ {n : Str} {v v' : Value}, n ≠ Str.ofString "bits" → cmB n = some v → (fun z => if z = Str.ofString "bits" then some v' else cmB z) n = some v := fun hn e => (if_neg hn).trans e
  refine seg_C2 (hb := hb) (outer := outer) H BC hh (by show A.depth + 1 + 40 < _; walk_at "o") (by show A.units + 3 + 100 < _; walk_at "o") WC (aO := aO) (aV := aV) (by simp) (.head _) (ne1 (by decide) coB) (ne1 (by decide) caB) (if_pos rfl) hcode fun hD tD aS vw BD WD RD => ?_
  refine seg_D1 (hb := hb) (outer := outer) H BD hh WD (.head _) (aOr := aOr) (row := row) (by simp) (ne1 (by decide) caB) (ne1 (by decide) corB) (if_pos rfl) hcode.vrg hcode.vlen rb.ok hcb fun hE tE aPl aL BE WE RE => ?_
  have ne2 : ∀ {n : Str} {v v1 v2 v3 : Value}, n ≠ Str.ofString "bits" → n ≠ Str.ofString "lacks" → n ≠ Str.ofString "places" → cmB n = some v → (fun z => if z = Str.ofString "lacks" then some v1 else if z = Str.ofString "places" then some v2 else (fun z => if z = Str.ofString "bits" then some v3 else cmB z) z) n = some v := fun h1 h2 h3 e => (if_neg h2).trans ((if_neg h3).trans ((if_neg h1).trans e))
  have T97E : ∃ ps, hE.get? 97 = some (tabObj ps) := by
    obtain ⟨ps, e⟩ := T97B
    exact ⟨ps, RE.keep _ _ x97 g97 (RD.keep _ _ x97 g97 (RC.keep _ _ x97 g97 e))⟩
  have T139E := RE.keep _ _ x139 g139 (RD.keep _ _ x139 g139 (RC.keep _ _ x139 g139 T139B))
  have hr9 : row.length ≤ 900 := by rw [rb.ok.len]; omega
  refine seg_D2 (hb := hb) (outer := outer) H BE hh (by show A.depth + 1 + 40 < _; walk_at "o") (by show A.units + 3 + 1000 < _; walk_at "o") hbm C139 n139' T97E T139E g97 g139 hL WE (aOr := aOr) (aL := aL) (row := row) (by simp) (.head _) (ne2 (by decide) (by decide) (by decide) corB) (if_pos rfl) hr9 (by rw [List.length_map]; have := hcode.vlen; walk_at "o") (told_ok rb.nd hr9) fun hF tF aT c₁ BF WF T97F T139F RF => ?_
  refine seg_D3 (hb := hb) (outer := outer) H BF hh (by show A.depth + 1 + 40 < _; walk_at "o") (by show A.units + 3 + 1000 < _; walk_at "o") hbm C139 n139' T97F T139F g97 g139 hL WF (aV := aV) (aT := aT) (aP := aP) (aR := aR) (row := row) (vals := valuesV ol) (by simp) (by simp) (by simp) (.head _)
    ((if_neg (by decide)).trans ((if_neg (by decide)).trans ((if_neg (by decide)).trans (if_pos rfl)))) (if_pos rfl) (ne2 (by decide) (by decide) (by decide) crB) (ne2 (by decide) (by decide) (by decide) cpB) rb hcode.vrg hcode.vlen fun hG tG T97G T139G RG => ?_
  have RR : Ret (XL L) (L :: fr outer) h₁ hG := (((((((RA.wide (Y := XL L) (by simp)).trans RB).trans (RC.wide (by simp))).trans (RD.wide (by simp))).trans (RE.wide (by simp))).trans RF).trans RG)
  refine k hG tG T97G T139G (Ret.leave (h₁ := h₀) hLs (fun _ _ e => e) (((Ret.of_stays k₁).trans RR).less fun a ma => ?_))
  simp only [List.mem_cons, List.not_mem_nil, or_false] at ma
  rcases ma with rfl | rfl | rfl | rfl | rfl | rfl | rfl | rfl | rfl | rfl | rfl | rfl
  · exact .inl (.head _)
  · exact .inr (hLn 1)
  · exact .inr (hLn 2)
  · exact .inr (hLn 3)
  · exact .inr (hLn 4)
  · exact .inr (hLn 5)
  · exact .inr (hLn 6)
  · exact .inr (hLn 7)
  · exact .inr (hLn 8)
  · exact .inr (hLn 9)
  · exact .inl (.tail _ (.head _))
  · exact .inl (.tail _ (.tail _ (.head _)))
end
end Mine
end

section
open PySem PySem.W PyProof.Rows
set_option maxRecDepth 100000
set_option maxHeartbeats 8000000
namespace Mine
open PySem PySem.Spec PySem.Calls PyProof.Rows PySem.W
theorem notabs (p : Params) : noTabs (TopF p) = true := by kernel_rfl
theorem ghost_at {h : Heap} {tabs : List (Addr × Addr)} {q : Addr × Addr} (hq : q ∈ tabs) : (ghostOf h tabs).get? q.2 = none := hideAll_none _ (List.mem_map_of_mem hq)

theorem law_end {w : World} {s₁ : Shared} {mg mb : Str → Option Value} {p : Program} {loose : List Str} {mean : ExcName → Option Value} {prog : Program} {cw : ClaimW} {cl : Str → Option Addr} {args : List WData} {l : Addr} {ns : List Int}
    (KX : (TopF w.params).In s₁.heap) (T : Top p loose mean mg mb s₁.heap) (hT : TabsAt [(101, 97), (141, 139)] s₁.heap) (hg : s₁.gens = #[]) (hl : IL [] s₁.heap l ns) (hz : ns.length ≤ 63)
    (hr : ∀ cls, cw.raises args cls = false) (hp : cw.post args (.bool true) args = true) :
    codeAny (model prog w) callerA (.call (.ref 142) ⟨[.ref l], []⟩) (fun r s' => GoodW cw cl mean args { s₁ with heap := ghostOf s₁.heap [(101, 97), (141, 139)] } r s' ∧ GrownAll [(101, 97), (141, 139)] s'.heap) s₁ := by
  have GT := ghost_top hT T
  have sub : (ghostOf s₁.heap [(101, 97), (141, 139)]).StaysIn s₁.heap := fun b o e => of_hideAll _ e
  have H : Bs w mg mb (ghostOf s₁.heap [(101, 97), (141, 139)]) := ⟨ghost_K hT KX (notabs _), GT.g, GT.b, GT.nolimit, GT.builtins⟩
  have B : Below callerA (ghostOf s₁.heap [(101, 97), (141, 139)]) [] s₁.heap := ⟨(ghost_below hT).stack, sub, trivial⟩
  have C := ghost_code hT
  have t97 : s₁.heap.get? 97 = some (tabObj #[]) := (hT (101, 97) (.head _)).2
  have t139 : s₁.heap.get? 139 = some (tabObj #[]) := (hT (141, 139) (.tail _ (.head _))).2
  have g97 : (ghostOf s₁.heap [(101, 97), (141, 139)]).get? 97 = none := ghost_at (q := (101, 97)) (.head _)
  have g139 : (ghostOf s₁.heap [(101, 97), (141, 139)]).get? 139 = none := ghost_at (q := (141, 139)) (.tail _ (.head _))
  refine law_fn (outer := []) H B rfl (by decide) (by decide) (by obtain ⟨bm, ob, e⟩ := GT.bmain; exact ⟨bm, ob, e⟩) C.1 C.2.1 g97 g139 t97 t139 (by simp [fr]) (by simp [fr]) hl hz fun h' tk k97 k139 r => ⟨⟨.inl ⟨.bool true, .bool true, [], rfl, hr, .bool true, hp, fun _ => ⟨List.nodup_nil, by simp⟩⟩, fun b o e => ?_, rfl, hg⟩, k97, k139, trivial⟩
  refine r.keep b o (fun m => ?_) (by simp [fr]) (sub b o e)
  simp only [List.mem_cons, List.not_mem_nil, or_false] at m
  rcases m with rfl | rfl
  · rw [g97] at e; cases e
  · rw [g139] at e; cases e

theorem arg_list {P : Params} {h : Heap} {l : Addr} {vl : List Value} {ns : List Int} (hw : Well P h (.ref l) (ofPy (.list (ns.map PyData.int)))) (hL : h.IsList l vl.toArray) (hI : IntsAre vl ns) : IL [] h l ns := by
  have key : ∀ {v : Value} {d : WData}, Well P h v d → v = .ref l → d = ofPy (.list (ns.map PyData.int)) → ∃ vs : List Value, h.get? l = some { cls := .type "list", data := .seq vs.toArray } := by
    intro v d hw hv hd
    cases hw with
    | list e _ => injection hv with hv; subst hv; exact ⟨_, e⟩
    | _ => first | (cases hv; done) | (exact absurd hd (by simp [ofPy])) | (cases hd; done)
  obtain ⟨vs, e⟩ := key hw rfl rfl
  obtain ⟨o, e2, _, n, hd⟩ := hL
  rw [e] at e2
  cases e2
  have hvs : vs = vl := by injection hd with h1 _; simpa using congrArg Array.toList h1
  subst hvs
  exact ⟨vs, ⟨0, e⟩, hI, List.not_mem_nil⟩
theorem x : PySem.Challenge.rw_kt0005_01.Holds := by
  refine holds_law said fun ok => ?_
  refine PySem.W.holds_open (q := q) (loose := loose) (Xt := fun s => xlAt q [] s && recOk (OpenLaw.row PySem.Challenge.rw_kt0005_01).toRowW.records s) (XP := PySem.W.XL q []) (Yf := (kmHook K as Ke [97, 139]).obs) (Ya := (kmHook K as Ke [97, 139]).val) (YP := (kmHook K as Ke [97, 139]).says) (N := 1754)
    left (kmHook K as Ke [97, 139]).of (kmHook K as Ke [97, 139]).keeps (fun s e => PySem.W.xl_of s (Bool.and_eq_true_iff.mp e).1) PySem.W.XL.keeps (by rfl) (by rfl) (by rfl) (fun s e => recFacts_of (Bool.and_eq_true_iff.mp e).2) (by rfl) ok (by decide +kernel) ⟨rfl, rfl, rfl, rfl, rfl, by decide +kernel⟩ ⟨[.list []], by decide +kernel, by decide +kernel⟩ ?_
  intro w s₀ s₁ mg mb G Y fa o pm cd doc dV kV ho hd hcd hD hmg hg args vals as hpre hlay hrd hwl hlo
  have KX := km_in_of Y
  have X := (Ground.X G).1
  have V := (Ground.X G).2
  refine Ground.open G ?_
  intro T B D TE TW
  have hT8 := km_tabs_of Y
  have hT9 : TabsAt [(101, 97), (141, 139)] s₁.heap := List.forall_mem_cons.mpr ⟨⟨codeHd_of_K (c := 101) (P := 97) KX (by kernel_rfl), hT8 97 (.head _)⟩, List.forall_mem_cons.mpr ⟨⟨codeHd_of_K (c := 141) (P := 139) KX (by kernel_rfl), hT8 139 (.tail _ (.head _))⟩, fun _ h => nomatch h⟩⟩
  have hfa : fa = 142 := by
    have e := mg_of KX T.g (n := Str.ofString "law") (v := .ref 142) (by kernel_rfl)
    exact Value.ref.inj (Option.some.inj (hmg.symm.trans e))
  clear hmg
  wrow_args hpre hlay hrd hwl hlo
  first | refine callC_kw (enter_call ?_) | refine enter_call ?_
  w_top on
  kn_posts
  subst hfa
  rename_i ns _ _ _ _ _ _ _ l vl _ hL _ hw _ hI _ hz _
  have hz : ns.length ≤ 63 := by walk_at "o"
  have hIL : IL [] s₁.heap l ns := arg_list hw hL hI
  exact law_end KX T hT9 hg hIL hz (fun _ => rfl) (by first | kernel_rfl | wrow_post | kc_post)
end Mine
end

theorem PySem.Challenge.cw_kt0005_01_holds : PySem.Challenge.rw_kt0005_01.Holds :=
  Mine.x
